import Derived.Test.Qxb6603449aBl7
import Derived.Deep.RegionLaw
namespace Go.Proofs.Qxb6603449a.BL
open Go.RowKit Go.ChangeMaps
set_option linter.unusedVariables false
set_option linter.unusedSimpArgs false

/-! ### A group being laid out -/
def flatm (i : Nat) : List St → List Value
  | [] => []
  | m :: L => .string m :: .int .i64 (i : Nat) :: flatm (i + 1) L
theorem flatm_len (i : Nat) (L : List St) : (flatm i L).length = L.length * 2 := by
  induction L generalizing i with
  | nil => rfl
  | cons m L ih => simp only [flatm, List.length_cons, ih]; omega
theorem flatm_snoc (i : Nat) (L : List St) (m : St) : flatm i (L ++ [m]) = flatm i L ++ [.string m, .int .i64 ((i + L.length : Nat) : Int)] := by
  induction L generalizing i with
  | nil => rfl
  | cons p L ih => simp only [List.cons_append, flatm, ih, List.length_cons]; congr 6; omega
theorem flatm_at (i : Nat) (L : List St) (j : Nat) (h : j < L.length) : (flatm i L)[j * 2]? = some (.string (L.getD j ByteArray.empty)) ∧ ∃ q, (flatm i L)[j * 2 + 1]? = some (.int .i64 q) := by
  induction L generalizing i j with
  | nil => simp at h
  | cons p L ih =>
    cases j with
    | zero => exact ⟨by simp [flatm], (i : Int), by simp [flatm]⟩
    | succ j =>
      obtain ⟨a, q, b⟩ := ih (i + 1) j (by simpa using h)
      rw [show (j + 1) * 2 = j * 2 + 1 + 1 from by omega]
      refine ⟨?_, q, ?_⟩
      · simp only [flatm, List.getElem?_cons_succ]; rw [a]; simp
      · simp only [flatm, List.getElem?_cons_succ]; exact b
structure Laying (w0 wr : World) (γ : Nat) (x : St) (mv : Value) (ms : List St) (j : Nat) : Prop where
  row : atR wr γ 57 [.string x, mv]
  own : wr.ownsRow (γ + 1) 59 2 mv j (flatm 0 (ms.take j))
  below : Below γ w0 wr
theorem own_ge {base e size n : Nat} {xs : List Value} {v : Value} {u : World} (h : u.ownsRow base e size v n xs) {k : Nat} (hk : k < base) : v.ownBlock ≠ some k := fun e => by have := (h.lt k e).1; omega
theorem Laying.next {w0 wr wq : World} {γ g cap : Nat} {x m : St} {mv : Value} {ms : List St} {j : Nat} (h : Laying w0 wr γ x mv ms j) (hj : j < ms.length) (hm : ms.getD j ByteArray.empty = m) (o : Obj)
    (hown : wq.ownsRow (γ + 1) 59 2 (.slice (some ⟨g, 0, none⟩) (j + 1) cap) (j + 1) (flatm 0 (ms.take j) ++ [.string m, .int .i64 (j : Nat)])) (hg : (wr.drew.alloc o).grownBy wq mv.ownBlock) :
    Laying w0 (wq.setCell ⟨γ, 1, none⟩ (.slice (some ⟨g, 0, none⟩) (j + 1) cap)) γ x (.slice (some ⟨g, 0, none⟩) (j + 1) cap) ms (j + 1) ∧ atR wq γ 57 [.string x, mv] := by
  have hlt := atR_lt h.row
  have hrow : atR wq γ 57 [.string x, mv] := (hg.block γ (by have : (wr.drew.alloc o).heap.size = wr.heap.size + 1 := by simp
                                                             omega) (fun e => own_ge h.own (Nat.lt_succ_self γ) e.symm)).trans ((Below.heap_alloc wr.drew o γ hlt).trans h.row)
  have e1 : ms.take (j + 1) = ms.take j ++ [m] := by rw [List.take_succ_eq_append_getElem hj]; congr 2; rw [← hm]; simp [hj]
  have e2 : flatm 0 (ms.take (j + 1)) = flatm 0 (ms.take j) ++ [.string m, .int .i64 (j : Nat)] := by
    rw [e1, flatm_snoc, List.length_take, Nat.min_eq_left (by omega), Nat.zero_add]
  refine ⟨⟨atR_set hrow 1 _, ?_, ?_⟩, hrow⟩
  · rw [e2]
    have hgg : g ≠ γ := by have := own_blk hown g rfl; omega
    refine hown.kept (w' := wq.setCell ⟨γ, 1, none⟩ (.slice (some ⟨g, 0, none⟩) (j + 1) cap)) (row := some γ) ⟨rfl, rfl, rfl, by simp, fun k hk hne => ?_⟩ (Or.inr (by simp [Value.ownBlock, hgg]))
    exact heap_setCell_other _ _ _ _ (fun e => hne (by simp only at e; rw [e]))
  · have z1 : wr.drew.heap.size = wr.heap.size := rfl
    have z2 : (wr.drew.alloc o).heap.size = wr.heap.size + 1 := by simp
    have b0 : Below γ w0 wr.drew := below_drewN h.below 1
    have b1 : Below γ w0 (wr.drew.alloc o) := b0.alloc (by omega) o
    exact (below_grown b1 hg (by omega) (fun k hk => by have := own_blk h.own k hk; omega)).setCell (Nat.le_refl _) _
theorem info59 : (Try.prog.info? 59).map (fun i => (i.zero, i.size, i.bytes)) = some (some (.agg #[.string ByteArray.empty, .int .i64 0]), 2, 24) := by kernel_rfl

/-! ### The groups that are laid out already, and the blocks they may not lie in -/
def bad (hB mB : Nat) (lv : Value) (b : Nat) : Prop := b = hB ∨ b = mB ∨ lv.ownBlock = some b
def GrpF (w : World) (B : Nat → Prop) (γ : Nat) (ms : List St) : Prop := ¬ B γ ∧ γ < w.heap.size ∧ ∃ ao cap, w.cell? ⟨γ, 1, none⟩ = some (.slice ao ms.length cap) ∧
  (ms = [] ∨ ∃ b off, ao = some ⟨b, off, none⟩ ∧ ¬ B b ∧ b < w.heap.size ∧ ∀ j, j < ms.length → ∃ q, w.cell? ⟨b, off + j * 2, none⟩ = some (.string (ms.getD j ByteArray.empty)) ∧ w.cell? ⟨b, off + j * 2 + 1, none⟩ = some (.int .i64 q))
theorem GrpF.grp {w : World} {B : Nat → Prop} {γ : Nat} {ms : List St} (h : GrpF w B γ ms) : Grp w γ ms := by
  obtain ⟨_, h1, ao, cap, h2, h3⟩ := h
  refine ⟨h1, ao, cap, h2, ?_⟩
  rcases h3 with h3 | ⟨b, off, e, _, hlt, hc⟩
  · exact Or.inl h3
  · exact Or.inr ⟨b, off, e, hlt, hc⟩
theorem GrpF.keep {w w' : World} {B B' : Nat → Prop} {γ : Nat} {ms : List St} (h : GrpF w B γ ms) (hs : w.heap.size ≤ w'.heap.size) (hk : ∀ b, b < w.heap.size → ¬ B b → w'.heap[b]? = w.heap[b]?) (hB : ∀ b, b < w.heap.size → B' b → B b) : GrpF w' B' γ ms := by
  obtain ⟨n1, h1, ao, cap, h2, h3⟩ := h
  refine ⟨fun c => n1 (hB _ h1 c), by omega, ao, cap, (World.cell?_of_block (hk γ h1 n1)).trans h2, ?_⟩
  rcases h3 with h3 | ⟨b, off, e, n2, hlt, hc⟩
  · exact Or.inl h3
  · refine Or.inr ⟨b, off, e, fun c => n2 (hB _ hlt c), by omega, fun j hj => ?_⟩
    obtain ⟨q, c1, c2⟩ := hc j hj
    exact ⟨q, (World.cell?_of_block (a := ⟨b, _, none⟩) (hk b hlt n2)).trans c1, (World.cell?_of_block (a := ⟨b, _, none⟩) (hk b hlt n2)).trans c2⟩
theorem Laying.grp {w0 wr : World} {γ : Nat} {x : St} {mv : Value} {ms : List St} {B : Nat → Prop} (h : Laying w0 wr γ x mv ms ms.length) (hB : ∀ b, γ ≤ b → ¬ B b) : GrpF wr B γ ms := by
  have ho := h.own
  rw [List.take_length] at ho
  have c1 := atR_at h.row 1 mv rfl
  rcases ho.2 with ⟨hv, h0⟩ | ⟨g, cap, cur, hv, hb, hg, _⟩
  · refine ⟨hB _ (Nat.le_refl _), atR_lt h.row, none, 0, by rw [c1, hv, h0], Or.inl (List.eq_nil_of_length_eq_zero h0)⟩
  · refine ⟨hB _ (Nat.le_refl _), atR_lt h.row, _, cap, by rw [c1, hv], Or.inr ⟨g, 0, rfl, hB _ (by omega), (ho.lt g (by rw [hv]; rfl)).2, fun j hj => ?_⟩⟩
    obtain ⟨a, q, b⟩ := flatm_at 0 ms j hj
    have k1 := ho.cells (g := g) (by rw [hv]; rfl) _ _ a
    have k2 := ho.cells (g := g) (by rw [hv]; rfl) _ _ b
    rw [Addr.add_lit] at k1 k2
    exact ⟨q, k1, k2⟩
theorem Nmd.congr {N : List St} {p p' : Nat → Value} {NM : List (St × Value)} {i : Nat} (h : Nmd N p NM i) (e : ∀ k, k < i → p k = p' k) : Nmd N p' NM i :=
  ⟨fun x v hv => by
    obtain ⟨k, a, b, c, d⟩ := h.1 x v hv
    exact ⟨k, a, b, c, by rw [d, e k a]⟩, fun k hk hf => by rw [← e k hk]; exact h.2 k hk hf⟩
/-- All that ZZBelow holds ahead of round i. -/
structure Zst (N : List St) (Ms : List (List St)) (w wr : World) (lv : Value) (NM : List (St × Value)) (γ : Nat → Nat) (i : Nat) : Prop where
  hb : atR wr (w.heap.size + 1) 53 [lv, .map (some w.heap.size), .map none, .slice none 0 0]
  m : atM wr w.heap.size NM
  nmd : Nmd N (ptr γ) NM i
  own : ∃ xs, wr.ownsRow w.heap.size 54 1 lv i xs
  nh : lv.ownBlock ≠ some (w.heap.size + 1)
  nm : lv.ownBlock ≠ some w.heap.size
  grp : ∀ k, k < i → GrpF wr (bad (w.heap.size + 1) w.heap.size lv) (γ k) (mm Ms k)
  below : Below w.heap.size w wr

/-- .. behind the append to the list, the map not yet written. -/
structure Zmid (N : List St) (Ms : List (List St)) (w w3 : World) (lv : Value) (NM : List (St × Value)) (γ : Nat → Nat) (i γi : Nat) (x : St) (ms : List St) : Prop where
  hb : atR w3 (w.heap.size + 1) 53 [lv, .map (some w.heap.size), .map none, .slice none 0 0]
  m : atM w3 w.heap.size NM
  nmd : Nmd N (ptr γ) NM i
  own : ∃ xs, w3.ownsRow w.heap.size 54 1 lv (i + 1) xs
  nh : lv.ownBlock ≠ some (w.heap.size + 1)
  nm : lv.ownBlock ≠ some w.heap.size
  grp : ∀ k, k < i → GrpF w3 (bad (w.heap.size + 1) w.heap.size lv) (γ k) (mm Ms k)
  new : GrpF w3 (bad (w.heap.size + 1) w.heap.size lv) γi ms
  name : w3.cell? ⟨γi, 0, none⟩ = some (.string x)
  below : Below w.heap.size w w3
theorem Zst.list {N : List St} {Ms : List (List St)} {w w0 wr wq : World} {lv mv : Value} {NM : List (St × Value)} {γ : Nat → Nat} {i g cap : Nat} {x : St} {ms : List St} {xs : List Value} (o : Obj)
    (h : Zst N Ms w w0 lv NM γ i) (hl : Laying w0 wr w0.heap.size x mv ms ms.length)
    (hown : wq.ownsRow w.heap.size 54 1 (.slice (some ⟨g, 0, none⟩) (i + 1) cap) (i + 1) xs) (hg : (wr.alloc o).grownBy wq lv.ownBlock) (hat : lv.ownBlock = some g ∨ g = (wr.alloc o).heap.size) :
    atR wq (w.heap.size + 1) 53 [lv, .map (some w.heap.size), .map none, .slice none 0 0] ∧
    Zmid N Ms w (wq.setCell ⟨w.heap.size + 1, 0, none⟩ (.slice (some ⟨g, 0, none⟩) (i + 1) cap)) (.slice (some ⟨g, 0, none⟩) (i + 1) cap) NM γ i w0.heap.size x ms := by
  have z1 : (wr.alloc o).heap.size = wr.heap.size + 1 := by simp
  have z2 := hl.below.size
  have z3 := atR_lt hl.row
  have z4 := hg.size
  have lh := atR_lt h.hb
  have lm := atM_lt h.m
  obtain ⟨ys, hys⟩ := h.own
  have lvlt : ∀ b, lv.ownBlock = some b → w.heap.size ≤ b ∧ b < w0.heap.size := fun b hb => hys.lt b hb
  have k1 : ∀ b, b < wr.heap.size → lv.ownBlock ≠ some b → wq.heap[b]? = wr.heap[b]? := fun b hb hne => (hg.block b (by omega) (fun e => hne e.symm)).trans (Below.heap_alloc wr o b hb)
  have k2 : ∀ b, b < w0.heap.size → lv.ownBlock ≠ some b → wq.heap[b]? = w0.heap[b]? := fun b hb hne => (k1 b (by omega) hne).trans (hl.below.block b hb)
  have hgh : g ≠ w.heap.size + 1 := by
    rcases hat with c | c
    · intro e; exact h.nh (by rw [c, e])
    · omega
  have hgm : g ≠ w.heap.size := by
    rcases hat with c | c
    · intro e; exact h.nm (by rw [c, e])
    · omega
  have row1 : atR wq (w.heap.size + 1) 53 [lv, .map (some w.heap.size), .map none, .slice none 0 0] := (k2 _ lh h.nh).trans h.hb
  have so : ∀ b, b ≠ w.heap.size + 1 → (wq.setCell ⟨w.heap.size + 1, 0, none⟩ (.slice (some ⟨g, 0, none⟩) (i + 1) cap)).heap[b]? = wq.heap[b]? := fun b hb => heap_setCell_other _ _ _ _ hb
  have ss : (wq.setCell ⟨w.heap.size + 1, 0, none⟩ (.slice (some ⟨g, 0, none⟩) (i + 1) cap)).heap.size = wq.heap.size := by simp
  have badlt : ∀ b, b < wr.heap.size → bad (w.heap.size + 1) w.heap.size (.slice (some ⟨g, 0, none⟩) (i + 1) cap) b → bad (w.heap.size + 1) w.heap.size lv b := by
    intro b hb hbad
    rcases hbad with c | c | c
    · exact Or.inl c
    · exact Or.inr (Or.inl c)
    · right; right
      have e : g = b := by simpa [Value.ownBlock] using c
      rcases hat with d | d
      · rw [d, e]
      · omega
  refine ⟨row1, ⟨?_, ?_, h.nmd, ?_, ?_, ?_, ?_, ?_, ?_, ?_⟩⟩
  · have := atR_set row1 0 (.slice (some ⟨g, 0, none⟩) (i + 1) cap); simpa using this
  · exact (so _ (by omega)).trans ((k2 _ lm h.nm).trans h.m)
  · exact ⟨xs, hown.kept (row := some (w.heap.size + 1)) ⟨rfl, rfl, rfl, by omega, fun k hk hne => so k (fun e => hne (by rw [e]))⟩ (Or.inr (by simp [Value.ownBlock, hgh]))⟩
  · simp [Value.ownBlock]; exact hgh
  · simp [Value.ownBlock]; exact hgm
  · intro k hk
    refine (h.grp k hk).keep (by omega) (fun b hb hn => ?_) (fun b hb hbad => badlt b (by omega) hbad)
    exact (so b (fun e => hn (Or.inl e))).trans (k2 b hb (fun e => hn (Or.inr (Or.inr e))))
  · have g0 : GrpF wr (bad (w.heap.size + 1) w.heap.size lv) w0.heap.size ms := hl.grp (fun b hb hbad => by
      rcases hbad with c | c | c
      · omega
      · omega
      · have := (lvlt b c).2; omega)
    refine g0.keep (by omega) (fun b hb hn => ?_) (fun b hb hbad => badlt b hb hbad)
    exact (so b (fun e => hn (Or.inl e))).trans (k1 b hb (fun e => hn (Or.inr (Or.inr e))))
  · rw [World.cell?_of_block (so _ (by simp only; omega)), World.cell?_of_block (k1 _ z3 (fun e => by have := (lvlt _ e).2; simp only at this; omega))]
    exact atR_at hl.row 0 _ rfl
  · have b1 : Below w.heap.size w (wr.alloc o) := (h.below.trans (hl.below.mono h.below.size)).alloc (by omega) o
    exact (below_grown b1 hg (by omega) (fun k hk => (lvlt k hk).1)).setCell (by simp only; omega) _
theorem Zmid.old {N : List St} {Ms : List (List St)} {w w3 : World} {lv v : Value} {NM : List (St × Value)} {γ : Nat → Nat} {i γi : Nat} {x : St} {ms : List St} (h : Zmid N Ms w w3 lv NM γ i γi x ms) (hx : x = BL.nm N i) (hms : ms = mm Ms i) (hg : get NM x = some v) (m : Nat) :
    Zst N Ms w (w3.drewN m) lv NM (fun k => if k = i then γi else γ k) (i + 1) := by
  rw [hx] at hg
  refine ⟨h.hb, h.m, ?_, h.own, h.nh, h.nm, ?_, below_drewN h.below m⟩
  · exact ((h.nmd.congr (p' := ptr fun k => if k = i then γi else γ k) (fun k hk => by simp [ptr, show ¬ k = i by omega])).old hg).2
  · intro k hk
    by_cases e : k = i
    · subst e
      have := h.new
      rw [hms] at this
      simp only [if_true]
      exact this
    · simp only [e, if_false]
      exact h.grp k (by omega)
theorem Zmid.drewN {N : List St} {Ms : List (List St)} {w w3 : World} {lv : Value} {NM : List (St × Value)} {γ : Nat → Nat} {i γi : Nat} {x : St} {ms : List St} (h : Zmid N Ms w w3 lv NM γ i γi x ms) (m : Nat) : Zmid N Ms w (w3.drewN m) lv NM γ i γi x ms :=
  ⟨h.hb, h.m, h.nmd, h.own, h.nh, h.nm, h.grp, h.new, h.name, below_drewN h.below m⟩
theorem Zmid.add {N : List St} {Ms : List (List St)} {w w3 : World} {lv : Value} {NM : List (St × Value)} {γ : Nat → Nat} {i γi : Nat} {x : St} {ms : List St} (h : Zmid N Ms w w3 lv NM γ i γi x ms) (hi : i < N.length) (hx : x = BL.nm N i) (hms : ms = mm Ms i) (hg : get NM x = none) :
    Zst N Ms w (putM w3 w.heap.size (NM ++ [(x, .pointer (some ⟨γi, 0, none⟩))])) lv (NM ++ [(x, .pointer (some ⟨γi, 0, none⟩))]) (fun k => if k = i then γi else γ k) (i + 1) := by
  have lm := atM_lt h.m
  have pg := putM_grown w3 w.heap.size (NM ++ [(x, .pointer (some ⟨γi, 0, none⟩))])
  have hkeep : ∀ {γ ms}, GrpF w3 (bad (w.heap.size + 1) w.heap.size lv) γ ms → GrpF (putM w3 w.heap.size (NM ++ [(x, .pointer (some ⟨γi, 0, none⟩))])) (bad (w.heap.size + 1) w.heap.size lv) γ ms := fun hgr =>
    hgr.keep pg.size (fun b hb hn => putM_other _ _ _ _ (fun e => hn (Or.inr (Or.inl e)))) (fun b _ hb => hb)
  refine ⟨atR_grown h.hb pg (by simp), putM_same lm _, ?_, ?_, h.nh, h.nm, ?_, below_grown h.below pg h.below.size (fun k hk => by injection hk with hk; omega)⟩
  · have n1 := h.nmd.congr (p' := ptr fun k => if k = i then γi else γ k) (fun k hk => by simp [ptr, show ¬ k = i by omega])
    rw [hx] at hg ⊢
    have := n1.add hi hg
    have e : ptr (fun k => if k = i then γi else γ k) i = .pointer (some ⟨γi, 0, none⟩) := by simp [ptr]
    rw [e] at this
    exact this
  · obtain ⟨xs, hxs⟩ := h.own
    exact ⟨xs, hxs.kept pg (Or.inr h.nm)⟩
  · intro k hk
    by_cases e : k = i
    · subst e
      have := hkeep h.new
      rw [hms] at this
      simp only [if_true]
      exact this
    · simp only [e, if_false]
      exact hkeep (h.grp k (by omega))

theorem step_push59 {w : World} {ops : Array Oper} {o : Oper} {a : Act} {K : Act → World → Prop} {Q : Exit → Act → World → Prop} {E : Prop} (hgd : o.guard = none) (s x : Operand)
    (ho : o.op = .call { callee := .builtin .append, args := #[s, x], argTypes := #[55, 55] }) (base n B : Nat) (v p1 p2 : Value) (xs : List Value) (hs : a.eval s = v) (hown : w.ownsRow base 59 2 v n xs) (hx : a.eval x = .slice (some ⟨B, 0, none⟩) 1 1)
    (hB : w.heap[B]? = some (.cells #[p1, p2] 59 (0, 0))) (h1 : p1.oneCell' = true) (h2 : p2.oneCell' = true) (hn : n ≤ 1048576) (hbase : base ≤ w.heap.size)
    (h : ∀ g cap w', w'.ownsRow base 59 2 (.slice (some ⟨g, 0, none⟩) (n + 1) cap) (n + 1) (xs ++ [p1, p2]) → w.grownBy w' v.ownBlock → K (a.put o.dst (.slice (some ⟨g, 0, none⟩) (n + 1) cap)) w') :
    if Region.wanted o (yielded ops a.tmps) = true then Oper.wp Try.prog o a w K Q else E := by
  obtain ⟨i, hi, hz0, hz1, hz2⟩ := info_parts info59
  refine step_append_lies w hgd s x 55 ho base 59 i _ 2 24 Try.underlying55 hi hz0 hz1 hz2 rfl (by omega) v n xs hs hown ⟨B, 0, none⟩ 1 1 [p1, p2] hx (by simp) (World.news_of_block hB) (fun u hu => by
    simp only [List.mem_cons, List.not_mem_nil, or_false] at hu
    rcases hu with rfl | rfl <;> assumption) (by omega) (by unfold maxLen; omega) (by omega) hbase _ rfl ?_
  intro g cap w' k2 k3 k4 k5
  exact h g cap w' k2 k3

set_option maxRecDepth 100000 in
set_option maxHeartbeats 8000000 in
theorem zz_below (N : List St) (Ms : List (List St)) (name : St) (ao am : Option Addr) (n c1 c2 : Nat) (w : World) (hn : N.length = n) (hlen : Ms.length = n) (hn4 : n ≤ 4096) (htot : tot Ms ≤ 4096)
    (hrn : StrRd w ao N) (hrm : LstRd w am Ms) :
    Calls Try.prog 16 #[.slice ao n c1, .slice am n c2, .string name] w fun e w' => BePost N Ms name w e w' := by
  have hmm := @run_makeMap Try.prog
  have hms : ∀ k, (mm Ms k).length ≤ 4096 := fun k => by
    by_cases hk : k < Ms.length
    · have h1 := upto_succ Ms k hk
      have h2 := upto_le Ms (k + 1)
      omega
    · have e : mm Ms k = [] := by unfold mm; simp [show Ms.length ≤ k by omega]
      rw [e]; simp
  have h0 : Zst N Ms w ((w.alloc (.map #[] 0)).alloc (.cells #[.slice none 0 0, .map (some w.heap.size), .map none, .slice none 0 0] 53)) (.slice none 0 0) [] (fun _ => 0) 0 := by
    have hs1 : (w.alloc (.map #[] 0)).heap.size = w.heap.size + 1 := by simp
    refine ⟨?_, atM_alloc (atM_made w) _, nmd_zero N _, ⟨[], World.ownsRow_nil _ _ _ _⟩, by simp [Value.ownBlock], by simp [Value.ownBlock], fun k hk => by omega, ((Below.refl _ _).alloc (Nat.le_refl _) _).alloc (by omega) _⟩
    have := heap_alloc_new (w.alloc (.map #[] 0)) (.cells #[.slice none 0 0, .map (some w.heap.size), .map none, .slice none 0 0] 53)
    rw [hs1] at this; exact this
  have H0 : Hid _ := h0
  have HRN : Hid (StrRd w ao N) := hrn
  have HRM : Hid (LstRd w am Ms) := hrm
  have HN : Hid _ := hn
  have HLEN : Hid _ := hlen
  have HTOT : Hid _ := htot
  have HMS : Hid (∀ k, (mm Ms k).length ≤ 4096) := hms
  clear h0 hrn hrm hn hlen htot hms
  go_enter Try.func16, Try.ntmps16
  go_wp2
  go_loopw [8] (fun vi wx => ∃ (i : Nat) (lv : Value) (NM : List (St × Value)) (γ : Nat → Nat), vi = .int .i64 i ∧ i ≤ n ∧ Hid (Zst N Ms w wx lv NM γ i))
    (fun vi _ => n - (intOf vi).toNat)
  case atStart => exact ⟨0, _, [], _, rfl, by omega, H0⟩
  case round =>
    clear H0
    obtain ⟨i, lv, NM, γ, rfl, hi, hst⟩ := hrel
    by_cases hil : i < n
    · have hil' : decide ((i : Int) < (n : Int)) = true := by simp only [decide_eq_true_eq]; omega
      have hil2 : (i : Int) < (n : Int) := by omega
      obtain ⟨b, off, hao, hbl, hcn⟩ := HRN.out.at_ (i := i) (by rw [HN.out]; exact hil)
      subst hao
      have k1 := (hst.out.below.cell (p := ⟨b, off + i, none⟩) hbl).trans hcn
      obtain ⟨x, hx⟩ : ∃ x, x = nm N i := ⟨_, rfl⟩
      have hx2 : N.getD i ByteArray.empty = x := by rw [hx]; rfl
      rw [hx2] at k1
      obtain ⟨bm, om, ai, ci, ham, hbm, hcm, hsi, _⟩ := HRM.out.at_ (i := i) (by rw [HLEN.out]; exact hil)
      subst ham
      obtain ⟨ms, hms⟩ : ∃ ms, ms = mm Ms i := ⟨_, rfl⟩
      have hl4 := HMS.out i
      rw [← hms] at hcm hsi hl4
      obtain ⟨l, hl⟩ : ∃ l, ms.length = l := ⟨_, rfl⟩
      rw [hl] at hcm hl4
      have HX : Hid _ := hx
      have HMSI : Hid _ := hms
      have HL : Hid _ := hl
      have HCM : Hid _ := hcm
      have HSI : Hid (StrRd w ai ms) := hsi
      obtain ⟨w0, hw0⟩ : ∃ w0, w0 = wr := ⟨_, rfl⟩
      have HB0 : Hid (Below w.heap.size w w0) := by unfold Hid; rw [hw0]; exact hst.out.below
      have HST : Hid (Zst N Ms w w0 lv NM γ i) := by unfold Hid; rw [hw0]; exact hst.out
      have HLY : Hid (Laying w0 (w0.alloc (.cells #[.string x, .slice none 0 0] 57)) w0.heap.size x (.slice none 0 0) ms 0) :=
        ⟨heap_alloc_new w0 _, by simpa [flatm] using World.ownsRow_nil (w0.alloc (.cells #[.string x, .slice none 0 0] 57)) (w0.heap.size + 1) 59 2, (Below.refl _ _).alloc (Nat.le_refl _) _⟩
      rw [← hw0] at k1 ⊢
      clear hcn hx hx2 hcm hsi hms hl hw0 hst
      go_wp2
      go_loopw [10] (fun vj wx => ∃ (j : Nat) (mv : Value), vj = .int .i64 j ∧ j ≤ l ∧ Hid (Laying w0 wx w0.heap.size x mv ms j))
        (fun vj _ => l - (intOf vj).toNat)
      case atStart => exact ⟨0, _, rfl, by omega, HLY⟩
      case round =>
        clear HLY k1
        obtain ⟨j, mv, rfl, hj, hly⟩ := hrel
        have z0 := HB0.out.size
        have k2 := (hly.out.below.cell (p := ⟨bm, om + i, none⟩) (by simp only; omega)).trans ((HB0.out.cell (p := ⟨bm, om + i, none⟩) hbm).trans HCM.out)
        by_cases hjl : j < l
        · have hjl' : (j : Int) < (l : Int) := by omega
          have hjm : j < ms.length := by rw [HL.out]; exact hjl
          obtain ⟨bs, os, hai, hbs, hcs⟩ := HSI.out.at_ (i := j) hjm
          subst hai
          have k4 := (hly.out.below.cell (p := ⟨bs, os + j, none⟩) (by simp only; omega)).trans ((HB0.out.cell (p := ⟨bs, os + j, none⟩) hbs).trans hcs)
          obtain ⟨m, hm⟩ : ∃ m, ms.getD j ByteArray.empty = m := ⟨_, rfl⟩
          rw [hm] at k4
          have d1 := atR_at hly.out.row 1 mv rfl
          have f1 := atR_fr hly.out.row 1
          have HM : Hid _ := hm
          have HJM : Hid _ := hjm
          have hgz := atR_lt hly.out.row
          clear hm hjm hcs
          go_wp2
          go_region_law (refine step_push59 rfl (.tmp 46) (.tmp 56) rfl (w0.heap.size + 1) j wr.heap.size mv (.string m) (.int .i64 (j : Int)) _ (by simp [Act.eval, Act.put]) (hly.out.own.drew.alloc _) (by simp [Act.eval, Act.put]) (heap_alloc_new wr.drew _) rfl rfl (by omega) (by simp; omega) ?_; intro g cap w' hown hgr; obtain ⟨nl, nr⟩ := hly.out.next HJM.out HM.out _ hown hgr; have q1 := atR_at nr 1 mv rfl; have q2 := atR_fr nr 1; have HNL : Hid _ := nl; clear nl nr hown hgr)
          all_goals
            go_wp2
            go_roundw
            case rel => exact ⟨j + 1, _, by go_num, by omega, HNL⟩
            case measure => simp [intOf]; omega
        · have hjl' : ¬ (j : Int) < (l : Int) := by omega
          have HLF : Hid (Laying w0 wr w0.heap.size x mv ms ms.length) := by
            have e : j = ms.length := by have := HL.out; omega
            have := hly.out; rw [e] at this; exact this
          clear hly
          have hb1 := atR_on HST.out.hb HLF.out.below
          have d1 := atR_at hb1 0 lv rfl
          obtain ⟨ys, hys⟩ := HST.out.own
          have hysr : wr.ownsRow w.heap.size 54 1 lv i ys := hys.kept (row := none) ⟨HLF.out.below.os, HLF.out.below.tape, HLF.out.below.output, HLF.out.below.size, fun k hk _ => HLF.out.below.block k hk⟩ (by
            cases hv : lv.ownBlock with
            | none => exact Or.inl rfl
            | some k => exact Or.inr (by simp))
          have HYS : Hid (((wr.alloc (.cells #[.pointer (some ⟨w0.heap.size, 0, none⟩)] 54)).ownsRow w.heap.size 54 1 lv i ys)) := hysr.alloc _
          have zz : w.heap.size ≤ wr.heap.size := by have := HLF.out.below.size; omega
          clear hb1 hys hysr
          go_upto_region 11 with (at_builtin; go_loud (refine wpList_push rfl _ _ rfl w.heap.size i lv (.pointer (some ⟨w0.heap.size, 0, none⟩)) ys rfl HYS.out _ rfl (blk_new _ _ rfl _) rfl (by omega) (by simp; omega) ?_); intro g cap w' hown hgr hat; obtain ⟨nr, nz⟩ := HST.out.list _ HLF.out hown hgr hat; have q1 := atR_at nr 0 lv rfl; have q2 := atR_fr nr 0; have HNZ : Hid _ := nz; clear nr nz hown hgr hat)
          generalize w'.setCell ⟨w.heap.size + 1, 0, none⟩ (.slice (some ⟨g, 0, none⟩) (i + 1) cap) = w3 at HNZ ⊢
          have n1 : w3.cell? ⟨w.heap.size + 1, 1, none⟩ = some (.map (some w.heap.size)) := atR_at HNZ.out.hb 1 _ rfl
          have n0 := HNZ.out.name
          clear q1 q2 d1 k2
          cases hg : get NM x with
          | none =>
            have lk : (Instr.lookup 49 (.map (some w.heap.size)) (.string x) true).run Try.prog w3.drew = .ok (.tuple #[.pointer none, .bool false]) w3.drew := look_none (w := w3.drew) 49 54 Try.underlying49 _ (zero54 _) HNZ.out.m x hg true
            have up := upd_none 49 54 Try.underlying49 (w := w3.drew.drew) HNZ.out.m x (.pointer (some ⟨w0.heap.size, 0, none⟩)) hg
            have HADD : Hid _ := (HNZ.out.drewN 2).add (by rw [HN.out]; exact hil) HX.out HMSI.out hg
            clear hg
            go_region
            go_wp2
            go_region
            go_wp2
            go_roundw
            case rel => exact ⟨i + 1, _, _, _, by go_num, by omega, HADD⟩
            case measure => simp [intOf]; omega
          | some v =>
            have lk : (Instr.lookup 49 (.map (some w.heap.size)) (.string x) true).run Try.prog w3.drew = .ok (.tuple #[v, .bool true]) w3.drew := look_some (w := w3.drew) 49 54 Try.underlying49 HNZ.out.m x v hg true
            have HADD : Hid _ := HNZ.out.old HX.out HMSI.out hg 1
            clear hg
            go_region
            go_wp2
            go_roundw
            case rel => exact ⟨i + 1, _, _, _, by go_num, by omega, HADD⟩
            case measure => simp [intOf]; omega
    · have hil' : decide ((i : Int) < (n : Int)) = false := by simp only [decide_eq_false_iff_not]; omega
      have hil2 : ¬ (i : Int) < (n : Int) := by omega
      have e : i = N.length := by have := HN.out; omega
      have HST : Hid (Zst N Ms w wr lv NM γ N.length) := by unfold Hid; rw [← e]; exact hst.out
      clear hst e
      have e0 := atR_at HST.out.hb 0 _ rfl
      have e1 := atR_at HST.out.hb 1 _ rfl
      have e2 := atR_at HST.out.hb 2 _ rfl
      have e3 := atR_at HST.out.hb 3 _ rfl
      go_wp2_with (go_at_call 30; refine (below_any N Ms name γ w.heap.size NM lv (.map none) (.slice none 0 0) wr (by rw [HLEN.out, HN.out]) HTOT.out HMS.out HST.out.m HST.out.nmd (fun k hk => (HST.out.grp k hk).grp)).mono ?_; rintro e w' ⟨bf, F, rfl, h1, h2, h3, h4⟩; have HP : Hid (BePost N Ms name w (.returned (.map (some bf))) w') := ⟨bf, F, rfl, h1, h2, h3, HST.out.below.trans (h4.mono HST.out.below.size)⟩; clear h1 h2 h3 h4)
      go_ret
      exact HP.out
end Go.Proofs.Qxb6603449a.BL
