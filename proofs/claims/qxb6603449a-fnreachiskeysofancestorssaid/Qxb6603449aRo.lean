import Derived.Test.Qxb6603449aRm
namespace Go.Proofs.Qxb6603449a.BL
open Go.RowKit Go.ChangeMaps Go.MapKept
set_option linter.unusedVariables false
set_option linter.unusedSimpArgs false

/-! ### The path in memory -/
def Cl (w : World) : List (St × List St) → List Value → Prop
  | [], xs => xs = []
  | q :: l, xs => ∃ ys ao cap, xs = ys ++ [.string q.1, .slice ao q.2.length cap] ∧ q.2.length ≤ cap ∧ LsRd w ao q.2 ∧ Cl w l ys
theorem Cl.kp {w w' : World} {l : List (St × List St)} {xs : List Value} (h : Cl w l xs) (hk : Kp 79 w w') : Cl w' l xs := by
  induction l generalizing xs with
  | nil => exact h
  | cons q l ih =>
    obtain ⟨ys, ao, cap, h1, h2, h3, h4⟩ := h
    exact ⟨ys, ao, cap, h1, h2, h3.kp hk, ih h4⟩
theorem LsRd.tl {w : World} {ao : Option Addr} {p : St} {ls : List St} (h : LsRd w ao (p :: ls)) : ∃ g off a, ao = some ⟨g, off, none⟩ ∧ g < w.heap.size ∧ (∃ cs, w.heap[g]? = some (.cells cs 79 (0, 0))) ∧ w.cell? ⟨g, off, none⟩ = some (.string p) ∧ w.cell? ⟨g, off + 1, none⟩ = some (.int .i64 a) ∧
    ∀ ao', (ls.length ≠ 0 → ao' = some ⟨g, off + 2, none⟩) → LsRd w ao' ls := by
  rcases h with h | ⟨g, off, e, hlt, hcs, hc⟩
  · cases h
  · obtain ⟨h1, a, h2⟩ := hc 0 (by simp)
    rw [Nat.zero_mul, Nat.add_zero] at h1 h2
    refine ⟨g, off, a, e, hlt, hcs, h1, h2, fun ao' hao => ?_⟩
    by_cases hz : ls.length = 0
    · exact Or.inl (List.eq_nil_of_length_eq_zero hz)
    · refine Or.inr ⟨g, off + 2, hao hz, hlt, hcs, fun j hj => ?_⟩
      have := hc (j + 1) (by simpa using hj)
      have e1 : off + (j + 1) * 2 = off + 2 + j * 2 := by omega
      rw [e1] at this
      exact this
section
variable {w w' : World} {base g n k cap : Nat} {a b u : Value} {ys : List Value}
theorem own_set (h : w.ownsRow base 82 2 (.slice (some ⟨g, 0, none⟩) (k + 1) cap) (k + 1) (ys ++ [a, b])) (hw : w'.heap[g]? = (w.setCell ⟨g, k * 2 + 1, none⟩ u).heap[g]?) : w'.ownsRow base 82 2 (.slice (some ⟨g, 0, none⟩) (k + 1) cap) (k + 1) (ys ++ [a, u]) := by
  have hl : ys.length = k * 2 := by have := h.1; simp at this; omega
  have := (h.stored (k * 2 + 1) u).1
  have e : (ys ++ [a, b]).set (k * 2 + 1) u = ys ++ [a, u] := by
    rw [List.set_append_right _ _ (by omega), hl]
    simp
  rw [e] at this
  refine ⟨this.1, ?_⟩
  rcases this.2 with ⟨c, _⟩ | ⟨g', cap', cur, e1, h1, h2, h3, h4, h5, h6⟩
  · cases c
  · simp only [Value.slice.injEq, Option.some.injEq, Addr.mk.injEq, and_true, true_and] at e1
    obtain ⟨rfl, rfl⟩ := e1
    exact Or.inr ⟨g, cap, cur, rfl, h1, hw.trans h2, h3, h4, h5, h6⟩
theorem own_pop (h : w.ownsRow base 82 2 (.slice (some ⟨g, 0, none⟩) (k + 1) cap) (k + 1) (ys ++ [a, b])) : w.ownsRow base 82 2 (.slice (some ⟨g, 0, none⟩) k cap) k ys := by
  have hl : ys.length = k * 2 := by have := h.1; simp at this; omega
  refine ⟨hl, ?_⟩
  rcases h.2 with ⟨c, _⟩ | ⟨g', cap', cur, e1, h1, h2, h3, h4, h5, h6⟩
  · cases c
  · simp only [Value.slice.injEq, Option.some.injEq, Addr.mk.injEq, and_true, true_and] at e1
    obtain ⟨rfl, rfl⟩ := e1
    refine Or.inr ⟨g, cap, cur, rfl, h1, h2, by omega, h4, h5, ?_⟩
    have e2 : cur.toList.take (k * 2) = (cur.toList.take ((k + 1) * 2)).take (k * 2) := by rw [List.take_take]; congr 1; omega
    rw [e2, h6, ← hl, List.take_left]
theorem own_top (h : w.ownsRow base 82 2 (.slice (some ⟨g, 0, none⟩) (k + 1) cap) (k + 1) (ys ++ [a, b])) : w.cell? ⟨g, k * 2, none⟩ = some a ∧ w.cell? ⟨g, k * 2 + 1, none⟩ = some b := by
  have hl : ys.length = k * 2 := by have := h.1; simp at this; omega
  refine ⟨?_, ?_⟩
  · rw [h.cellAt _ (by omega), List.getElem?_append_right (by omega), hl, Nat.sub_self]; rfl
  · rw [h.cellAt _ (by omega), List.getElem?_append_right (by omega), hl, Nat.add_sub_cancel_left]; rfl
end
/-! ### The membership under changes -/
theorem ne82 {w : World} {row : Option Nat} {k : Nat} {o : Obj} (hr : ∀ k, row = some k → ∃ cs, w.heap[k]? = some (.cells cs 82 (0, 0))) (h : w.heap[k]? = some o) (ho : ∀ cs, o ≠ .cells cs 82 (0, 0)) : row ≠ some k := fun c => by
  obtain ⟨cs, e⟩ := hr k c
  rw [h] at e; injection e with e; exact ho cs e
theorem kp82 {w w' : World} {row : Option Nat} (T : TypeId) (hT : T ≠ 82) (hg : w.grownBy w' row) (hr : ∀ k, row = some k → ∃ cs, w.heap[k]? = some (.cells cs 82 (0, 0))) : Kp T w w' :=
  kp_grown hg (fun k hk cs c => by
    obtain ⟨cs2, e⟩ := hr k hk
    rw [c] at e; injection e with e; injection e with _ e; exact hT e)
theorem kpM {w : World} {b : Nat} {L L' : List (St × Value)} (T : TypeId) (h : atM w b L) : Kp T w (putM w b L') :=
  kp_grown (putM_grown _ _ _) (fun k hk cs c => by injection hk with hk; rw [← hk] at c; unfold atM at h; rw [h] at c; cases c)
section
variable {w w' : World} {mb ib kb rb : Nat} {P : St → List St} {κ : St → Option Int} {Li Lk Lr : List (St × Value)}
theorem Mem.grown (h : Mem w mb ib kb rb P κ Li Lk Lr) {row : Option Nat} (hg : w.grownBy w' row) (hr : ∀ k, row = some k → ∃ cs, w.heap[k]? = some (.cells cs 82 (0, 0))) : Mem w' mb ib kb rb P κ Li Lk Lr :=
  ⟨atR_grown h.bx hg (ne82 hr h.bx (fun cs c => by injection c with _ c; cases c)), atM_grown h.im hg (ne82 hr h.im (fun cs c => by cases c)), fun x => by
    obtain ⟨ao, cap, h1, h2, h3, h4⟩ := h.inn x
    exact ⟨ao, cap, h1, h2, h3, h4.kp (kp82 79 (by decide) hg hr)⟩, atM_grown h.km hg (ne82 hr h.km (fun cs c => by cases c)), h.keys, atM_grown h.rm hg (ne82 hr h.rm (fun cs c => by cases c))⟩
theorem Mem.put (h : Mem w mb ib kb rb P κ Li Lk Lr) (h1 : ib ≠ rb) (h2 : kb ≠ rb) (L : List (St × Value)) : Mem (putM w rb L) mb ib kb rb P κ Li Lk L :=
  ⟨atR_grown h.bx (putM_grown _ _ _) (fun c => by
      injection c with c
      have e := h.rm
      have e2 := h.bx
      unfold atM at e; unfold atR at e2
      rw [← c, e] at e2; cases e2),
    atM_grown h.im (putM_grown _ _ _) (fun c => by injection c with c; exact h1 c.symm), fun x => by
    obtain ⟨ao, cap, k1, k2, k3, k4⟩ := h.inn x
    exact ⟨ao, cap, k1, k2, k3, k4.kp (kpM 79 h.rm)⟩, atM_grown h.km (putM_grown _ _ _) (fun c => by injection c with c; exact h2 c.symm), h.keys, putM_same (atM_lt h.rm) _⟩
theorem RdM.put {F : St → Option (List Int)} (h : RdM w Lr F) (c : St) (Z : List Int) (ao : Option Addr) (h0 : ao = none → Z = []) (hI : I21 w ao Z) : RdM w (putL Lr c (.slice ao Z.length Z.length)) (fput F c Z) := fun y => by
  unfold fput
  rw [get_putL]
  by_cases e : y = c
  · rw [if_pos e, if_pos e.symm]
    exact Or.inr ⟨Z, ao, rfl, rfl, h0, hI⟩
  · rw [if_neg e, if_neg (fun q : c = y => e q.symm)]
    exact h y
end
/-- Where reach is. -/
structure Rs (w wr : World) (mb ib kb rb : Nat) (P : St → List St) (κ : St → Option Int) (Li Lk : List (St × Value)) (v : Value) (F : St → Option (List Int)) (Lr : List (St × Value)) (l : List (St × List St)) (xs : List Value) : Prop where
  own : wr.ownsRow w.heap.size 82 2 v l.length xs
  cl : Cl wr l xs
  mem : Mem wr mb ib kb rb P κ Li Lk Lr
  rd : RdM wr Lr F
  gr : w.grownBy wr (some rb)
theorem gr_more {w wr w1 : World} {rb : Nat} {row : Option Nat} (h : w.grownBy wr (some rb)) (hg : wr.grownBy w1 row) (hr : ∀ k, row = some k → w.heap.size ≤ k ∨ k = rb) : w.grownBy w1 (some rb) :=
  ⟨hg.os.trans h.os, hg.tape.trans h.tape, hg.output.trans h.output, Nat.le_trans h.size hg.size, fun i hi hne => (hg.block i (Nat.lt_of_lt_of_le hi h.size) (fun c => by
    rcases hr i c.symm with d | d
    · omega
    · exact hne (by rw [d]))).trans (h.block i hi hne)⟩
theorem grown_of_below {w w' : World} (h : Below w.heap.size w w') : w.grownBy w' none := ⟨h.os, h.tape, h.output, h.size, fun i hi _ => h.block i hi⟩
section
variable {w wr w1 : World} {mb ib kb rb : Nat} {P : St → List St} {κ : St → Option Int} {Li Lk Lr : List (St × Value)} {v : Value} {F : St → Option (List Int)} {l : List (St × List St)} {xs : List Value}
theorem Rs.grow (h : Rs w wr mb ib kb rb P κ Li Lk v F Lr l xs) (hg : wr.grownBy w1 none) : Rs w w1 mb ib kb rb P κ Li Lk v F Lr l xs :=
  ⟨h.own.kept hg (by cases hv : v.ownBlock <;> simp), h.cl.kp (kp82 79 (by decide) hg (fun k c => by cases c)), h.mem.grown hg (fun k c => by cases c), h.rd.kp (kp82 21 (by decide) hg (fun k c => by cases c)), gr_more h.gr hg (fun k c => by cases c)⟩
theorem Rs.top {c : St} {left : List St} (h : Rs w wr mb ib kb rb P κ Li Lk v F Lr ((c, left) :: l) xs) : ∃ g cap ys ao cp, v = .slice (some ⟨g, 0, none⟩) (l.length + 1) cap ∧ w.heap.size ≤ g ∧ g < wr.heap.size ∧ l.length + 1 ≤ cap ∧ (∃ cs, wr.heap[g]? = some (.cells cs 82 (0, 0))) ∧ xs = ys ++ [.string c, .slice ao left.length cp] ∧ left.length ≤ cp ∧ LsRd wr ao left ∧ Cl wr l ys ∧
    wr.cell? ⟨g, l.length * 2, none⟩ = some (.string c) ∧ wr.cell? ⟨g, l.length * 2 + 1, none⟩ = some (.slice ao left.length cp) ∧ wr.frozen? ⟨g, l.length * 2 + 1, none⟩ = false := by
  obtain ⟨ys, ao, cp, e, h1, h2, h3⟩ := h.cl
  have ho := h.own
  rw [List.length_cons] at ho
  obtain ⟨g, cap, e1, h4, h5, h6⟩ := own_some ho (by omega)
  obtain ⟨cs, hcs⟩ := own_obj ho (g := g) (by rw [e1]; rfl)
  rw [e1, e] at ho
  obtain ⟨c1, c2⟩ := own_top ho
  exact ⟨g, cap, ys, ao, cp, e1, h4, h5, h6, ⟨cs, hcs⟩, e, h1, h2, h3, c1, c2, ho.frozenAt _⟩
theorem Rs.up {c p : St} {left : List St} {g cap cp : Nat} {ao ao' : Option Addr} {ys : List Value} (h : Rs w wr mb ib kb rb P κ Li Lk (.slice (some ⟨g, 0, none⟩) (l.length + 1) cap) F Lr ((c, p :: left) :: l) (ys ++ [.string c, .slice ao (p :: left).length cp]))
    (hcl : Cl wr l ys) (hg : wr.grownBy w1 (some g)) (hw : w1.heap[g]? = (wr.setCell ⟨g, l.length * 2 + 1, none⟩ (.slice ao' left.length (cp - 1))).heap[g]?) (hcp : left.length + 1 ≤ cp) (hls : LsRd wr ao' left) (hgs : w.heap.size ≤ g) :
    Rs w w1 mb ib kb rb P κ Li Lk (.slice (some ⟨g, 0, none⟩) (l.length + 1) cap) F Lr ((c, left) :: l) (ys ++ [.string c, .slice ao' left.length (cp - 1)]) := by
  have hr : ∀ k, some g = some k → ∃ cs, wr.heap[k]? = some (.cells cs 82 (0, 0)) := fun k hk => by
    injection hk with hk; rw [← hk]; exact own_obj h.own (g := g) rfl
  exact ⟨own_set h.own hw, ⟨ys, ao', cp - 1, rfl, by simp only; omega, hls.kp (kp82 79 (by decide) hg hr), hcl.kp (kp82 79 (by decide) hg hr)⟩, h.mem.grown hg hr, h.rd.kp (kp82 21 (by decide) hg hr), gr_more h.gr hg (fun k hk => by injection hk with hk; rw [← hk]; exact Or.inl hgs)⟩
theorem Rs.push {g cap : Nat} {p : St} (h : Rs w wr mb ib kb rb P κ Li Lk v F Lr l xs) {ao : Option Addr} {cp : Nat} (hc : (P p).length ≤ cp) (hls : LsRd wr ao (P p)) (hown : w1.ownsRow w.heap.size 82 2 (.slice (some ⟨g, 0, none⟩) (l.length + 1) cap) (l.length + 1) (xs ++ [.string p, .slice ao (P p).length cp])) (hg : wr.grownBy w1 v.ownBlock) :
    Rs w w1 mb ib kb rb P κ Li Lk (.slice (some ⟨g, 0, none⟩) (l.length + 1) cap) F Lr ((p, P p) :: l) (xs ++ [.string p, .slice ao (P p).length cp]) := by
  have hr : ∀ k, v.ownBlock = some k → ∃ cs, wr.heap[k]? = some (.cells cs 82 (0, 0)) := fun k hk => own_obj h.own hk
  exact ⟨hown, ⟨xs, ao, cp, rfl, hc, hls.kp (kp82 79 (by decide) hg hr), h.cl.kp (kp82 79 (by decide) hg hr)⟩, h.mem.grown hg hr, h.rd.kp (kp82 21 (by decide) hg hr), gr_more h.gr hg (fun k hk => Or.inl (own_blk h.own k hk))⟩
theorem Rs.pop {g cap cp : Nat} {c : St} {ao az : Option Addr} {n : Nat} {ys : List Value} {left : List St} {Z : List Int} (h : Rs w wr mb ib kb rb P κ Li Lk (.slice (some ⟨g, 0, none⟩) (l.length + 1) cap) F Lr ((c, left) :: l) (ys ++ [.string c, .slice ao n cp]))
    (hcl : Cl wr l ys) (h1 : ib ≠ rb) (h2 : kb ≠ rb) (hb : wr.grownBy w1 none) (h0 : az = none → Z = []) (hI : I21 w1 az Z) :
    Rs w (putM w1 rb (putL Lr c (.slice az Z.length Z.length))) mb ib kb rb P κ Li Lk (.slice (some ⟨g, 0, none⟩) l.length cap) (fput F c Z) (putL Lr c (.slice az Z.length Z.length)) l ys := by
  have hh := h.grow hb
  obtain ⟨cs, hcs⟩ := own_obj hh.own (g := g) rfl
  refine ⟨?_, (hcl.kp (kp82 79 (by decide) hb (fun k c => by cases c))).kp (kpM 79 hh.mem.rm), hh.mem.put h1 h2 _, (hh.rd.put c Z az h0 hI).kp (kpM 21 hh.mem.rm), gr_more hh.gr (putM_grown _ _ _) (fun k hk => by injection hk with hk; exact Or.inr hk.symm)⟩
  refine (own_pop hh.own).kept (putM_grown _ _ _) (Or.inr (fun c => ?_))
  injection c with c
  have e := hh.mem.rm
  unfold atM at e
  rw [← c] at e
  simp only at e
  rw [hcs] at e
  cases e
end
end Go.Proofs.Qxb6603449a.BL
