import Derived.Test.Qxb6603449aRe
namespace Go.Proofs.Qxb6603449a.BL
open Go.RowKit Go.ChangeMaps Go.MapKept
set_option linter.unusedVariables false
set_option linter.unusedSimpArgs false

/-! ### Peeling: no Go in sight -/
def cnt (P : St → List St) (Q : List St) (y : St) : Nat := (Q.flatMap P).count y
theorem cnt_le (P : St → List St) (B : Nat) (hB : ∀ x, (P x).length ≤ B) (Q : List St) (y : St) : cnt P Q y ≤ Q.length * B := by
  have h1 : (Q.flatMap P).length ≤ Q.length * B := by
    induction Q with
    | nil => simp
    | cons a Q ih => rw [List.flatMap_cons, List.length_append, List.length_cons, Nat.succ_mul]; have := hB a; omega
  exact Nat.le_trans List.count_le_length h1
theorem cnt_snoc (P : St → List St) (Q : List St) (u y : St) : cnt P (Q ++ [u]) y = cnt P Q y + (P u).count y := by
  unfold cnt; rw [List.flatMap_append, List.count_append]; simp
theorem cnt_perm (P : St → List St) {Q R : List St} (h : Q.Perm R) (y : St) : cnt P Q y = cnt P R y := (h.flatMap_right P).count_eq y
theorem cnt_erase (P : St → List St) {Q : List St} {u : St} (h : u ∈ Q) (y : St) : cnt P Q y = (P u).count y + cnt P (Q.erase u) y := by
  rw [cnt_perm P (List.perm_cons_erase h)]; unfold cnt; rw [List.flatMap_cons, List.count_append]
theorem cnt_zero {P : St → List St} {Q : List St} {y : St} (h : cnt P Q y = 0) {c : St} (hc : c ∈ Q) : y ∉ P c := fun hy => by
  unfold cnt at h
  rw [List.count_eq_zero] at h
  exact h (List.mem_flatMap.2 ⟨c, hc, hy⟩)
theorem count_take (l : List St) (j : Nat) (m y : St) (hj : j < l.length) (hm : l.getD j ByteArray.empty = m) : (l.take (j + 1)).count y = (l.take j).count y + if y = m then 1 else 0 := by
  have e : l[j] = m := by rw [← hm, List.getD_eq_getElem?_getD, List.getElem?_eq_getElem hj]; rfl
  rw [List.take_succ_eq_append_getElem hj, List.count_append, e]
  by_cases c : y = m
  · rw [if_pos c, c]; simp
  · rw [if_neg c, List.count_singleton]
    have : (m == y) = false := by simpa using fun h => c h.symm
    rw [this]; rfl
theorem count_drop (l : List St) (j : Nat) (m y : St) (hj : j < l.length) (hm : l.getD j ByteArray.empty = m) : (l.drop j).count y = (l.drop (j + 1)).count y + if y = m then 1 else 0 := by
  have e : l[j] = m := by rw [← hm, List.getD_eq_getElem?_getD, List.getElem?_eq_getElem hj]; rfl
  rw [List.drop_eq_getElem_cons hj, List.count_cons, e]
  by_cases c : y = m
  · rw [if_pos c, c]; simp
  · rw [if_neg c]
    have : (m == y) = false := by simpa using fun h => c h.symm
    rw [this]; rfl
/-- The state of the peeling: Pl peeled, Rm the rest, R ready. -/
structure Kn (P : St → List St) (Nd Pl Rm R : List St) (dg : St → Nat) : Prop where
  perm : Nd.Perm (Pl ++ Rm)
  rn : R.Nodup
  rs : ∀ y ∈ R, y ∈ Rm
  deg : ∀ y, dg y = cnt P Rm y
  zero : ∀ y ∈ Rm, (y ∈ R ↔ dg y = 0)
  ord : Pl.Pairwise fun a b => a ∉ P b
  self : ∀ a ∈ Pl, a ∉ P a
  past : ∀ a ∈ Pl, ∀ c ∈ Rm, a ∉ P c
structure KnIn (P : St → List St) (Nd Pl Rm R : List St) (dg : St → Nat) (u : St) (j : Nat) : Prop where
  perm : Nd.Perm (Pl ++ [u] ++ Rm)
  rn : R.Nodup
  rs : ∀ y ∈ R, y ∈ Rm
  deg : ∀ y, dg y = cnt P Rm y + ((P u).drop j).count y
  zero : ∀ y ∈ Rm, (y ∈ R ↔ dg y = 0)
  ord : Pl.Pairwise fun a b => a ∉ P b
  self : ∀ a ∈ Pl, a ∉ P a
  past : ∀ a ∈ Pl, ∀ c ∈ Rm, a ∉ P c
  pu : ∀ a ∈ Pl, a ∉ P u
  uu : u ∉ P u
  uc : ∀ c ∈ Rm, u ∉ P c
section
variable {P : St → List St} {Nd Pl Rm R : List St} {dg : St → Nat} {u : St} {j : Nat}
theorem kn_start (hN : Nd.Nodup) (hd : ∀ y, dg y = cnt P Nd y) : Kn P Nd [] Nd (Nd.filter fun y => dg y == 0) dg :=
  ⟨List.Perm.refl _, hN.filter _, fun y hy => (List.mem_filter.1 hy).1, hd, fun y hy => by simp [hy], List.Pairwise.nil, fun a ha => by simp at ha, fun a ha => by simp at ha⟩
theorem Kn.into {R0 : List St} (h : Kn P Nd Pl Rm (R0 ++ [u]) dg) (hN : Nd.Nodup) : KnIn P Nd Pl (Rm.erase u) R0 dg u 0 := by
  have hu : u ∈ Rm := h.rs u (by simp)
  have hnd : (Pl ++ Rm).Nodup := h.perm.nodup_iff.1 hN
  have hrn : Rm.Nodup := (List.nodup_append.1 hnd).2.1
  have hz : cnt P Rm u = 0 := by rw [← h.deg]; exact (h.zero u hu).1 (by simp)
  have hR := List.nodup_append.1 h.rn
  have hne : ∀ y ∈ R0, y ≠ u := fun y hy => hR.2.2 y hy u (by simp)
  refine ⟨?_, hR.1, fun y hy => ?_, fun y => ?_, fun y hy => ?_, h.ord, h.self, fun a ha c hc => h.past a ha c (List.mem_of_mem_erase hc), fun a ha => h.past a ha u hu, cnt_zero hz hu, fun c hc => cnt_zero hz (List.mem_of_mem_erase hc)⟩
  · refine h.perm.trans ?_
    rw [List.append_assoc]
    exact List.Perm.append_left Pl (List.perm_cons_erase hu)
  · exact (List.mem_erase_of_ne (hne y hy)).2 (h.rs y (by simp [hy]))
  · rw [h.deg, cnt_erase P hu, List.drop_zero, Nat.add_comm]
  · have hyu : y ≠ u := fun c => by
      rw [c] at hy
      exact (List.Nodup.not_mem_erase hrn) hy
    rw [← h.zero y (List.mem_of_mem_erase hy)]
    simp [hyu]
theorem KnIn.pos (h : KnIn P Nd Pl Rm R dg u j) {m : St} (hj : j < (P u).length) (hm : (P u).getD j ByteArray.empty = m) : 1 ≤ dg m := by
  rw [h.deg, count_drop (P u) j m m hj hm, if_pos rfl]; omega
theorem KnIn.next (h : KnIn P Nd Pl Rm R dg u j) {m : St} (hj : j < (P u).length) (hm : (P u).getD j ByteArray.empty = m) (hcl : ∀ x ∈ Nd, ∀ p ∈ P x, p ∈ Nd) :
    m ∈ Rm ∧ m ∉ R ∧ (∀ dg' : St → Nat, (∀ y, dg' y = if y = m then dg m - 1 else dg y) → (dg' m ≠ 0 → KnIn P Nd Pl Rm R dg' u (j + 1)) ∧ (dg' m = 0 → KnIn P Nd Pl Rm (R ++ [m]) dg' u (j + 1))) := by
  have hp := h.pos hj hm
  have hmu : m ∈ P u := by rw [← hm]; exact getD_mem hj
  have huN : u ∈ Nd := h.perm.mem_iff.2 (by simp)
  have hmN : m ∈ Nd := hcl u huN m hmu
  have hmR : m ∈ Rm := by
    have := h.perm.mem_iff.1 hmN
    rw [List.mem_append, List.mem_append, List.mem_singleton] at this
    rcases this with (c | c) | c
    · exact absurd hmu (h.pu m c)
    · exact absurd hmu (by rw [c]; exact h.uu)
    · exact c
  have hmn : m ∉ R := fun c => by
    have := (h.zero m hmR).1 c
    omega
  refine ⟨hmR, hmn, fun dg' hd => ?_⟩
  have hdeg : ∀ y, dg' y = cnt P Rm y + ((P u).drop (j + 1)).count y := fun y => by
    have e := h.deg y
    rw [count_drop (P u) j m y hj hm] at e
    rw [hd y]
    by_cases c : y = m
    · rw [if_pos c]
      rw [if_pos c] at e
      rw [c] at e ⊢
      omega
    · rw [if_neg c]
      rw [if_neg c] at e
      omega
  have hdm : dg' m = dg m - 1 := by rw [hd, if_pos rfl]
  have hoth : ∀ y, y ≠ m → dg' y = dg y := fun y hy => by rw [hd, if_neg hy]
  constructor
  · intro hnz
    refine ⟨h.perm, h.rn, h.rs, hdeg, fun y hy => ?_, h.ord, h.self, h.past, h.pu, h.uu, h.uc⟩
    by_cases c : y = m
    · rw [c]; exact ⟨fun q => absurd q hmn, fun q => absurd q hnz⟩
    · rw [hoth y c]; exact h.zero y hy
  · intro hz
    refine ⟨h.perm, ?_, fun y hy => ?_, hdeg, fun y hy => ?_, h.ord, h.self, h.past, h.pu, h.uu, h.uc⟩
    · rw [List.nodup_append]
      refine ⟨h.rn, by simp, fun a ha b hb => ?_⟩
      rw [List.mem_singleton] at hb
      rw [hb]; exact fun c => hmn (by rw [← c]; exact ha)
    · rcases List.mem_append.1 hy with c | c
      · exact h.rs y c
      · rw [List.mem_singleton] at c; rw [c]; exact hmR
    · by_cases c : y = m
      · rw [c]; simp [hz]
      · rw [hoth y c, ← h.zero y hy]; simp [c]
theorem KnIn.done (h : KnIn P Nd Pl Rm R dg u j) (hj : (P u).length ≤ j) : Kn P Nd (Pl ++ [u]) Rm R dg :=
  ⟨h.perm, h.rn, h.rs, fun y => by rw [h.deg, List.drop_eq_nil_of_le hj]; simp, h.zero, by
    rw [List.pairwise_append]
    exact ⟨h.ord, by simp, fun a ha b hb => by rw [List.mem_singleton] at hb; rw [hb]; exact h.pu a ha⟩, fun a ha => by
    rcases List.mem_append.1 ha with c | c
    · exact h.self a c
    · rw [List.mem_singleton] at c; rw [c]; exact h.uu, fun a ha c hc => by
    rcases List.mem_append.1 ha with d | d
    · exact h.past a d c hc
    · rw [List.mem_singleton] at d; rw [d]; exact h.uc c hc⟩
theorem Kn.len (h : Kn P Nd Pl Rm R dg) : Pl.length + Rm.length = Nd.length := by rw [h.perm.length_eq, List.length_append]
theorem KnIn.len (h : KnIn P Nd Pl Rm R dg u j) : Pl.length + 1 + Rm.length = Nd.length := by rw [h.perm.length_eq]; simp; omega
/-- No loops: a rank that rises. -/
def Acy (P : St → List St) (Nd : List St) : Prop := ∃ rk : St → Nat, ∀ c ∈ Nd, ∀ y ∈ P c, rk c < rk y
theorem Kn.acy (h : Kn P Nd Pl Rm R dg) (hl : Pl.length = Nd.length) (hcl : ∀ x ∈ Nd, ∀ p ∈ P x, p ∈ Nd) : Acy P Nd := by
  have hr : Rm = [] := List.eq_nil_of_length_eq_zero (by have := h.len; omega)
  have hin : ∀ x ∈ Nd, x ∈ Pl := fun x hx => by have := h.perm.mem_iff.1 hx; rw [hr] at this; simpa using this
  refine ⟨fun x => Pl.idxOf x, fun c hc y hy => ?_⟩
  have h1 : Pl.idxOf c < Pl.length := List.idxOf_lt_length_of_mem (hin c hc)
  have h2 : Pl.idxOf y < Pl.length := List.idxOf_lt_length_of_mem (hin y (hcl c hc y hy))
  have e1 : Pl[Pl.idxOf c] = c := List.getElem_idxOf h1
  have e2 : Pl[Pl.idxOf y] = y := List.getElem_idxOf h2
  show Pl.idxOf c < Pl.idxOf y
  rcases Nat.lt_trichotomy (Pl.idxOf c) (Pl.idxOf y) with d | d | d
  · exact d
  · exfalso
    have e3 : y = c := by rw [← e1, ← e2]; congr 1; exact d.symm
    exact h.self c (hin c hc) (by rw [e3] at hy; exact hy)
  · exfalso
    have := (List.pairwise_iff_getElem.1 h.ord) _ _ h2 h1 d
    rw [e1, e2] at this
    exact this hy
end
/-! ### the degrees in a map -/
def DgM (L : List (St × Value)) (dg : St → Nat) : Prop := ∀ y, (get L y).getD (.int .i64 0) = .int .i64 (dg y : Nat)
theorem dgm_nil : DgM [] (fun _ => 0) := fun y => rfl
theorem DgM.put {L : List (St × Value)} {dg : St → Nat} (h : DgM L dg) (x : St) (d : Nat) : DgM (putL L x (.int .i64 (d : Nat))) (fun y => if y = x then d else dg y) := fun y => by
  rw [get_putL]
  show _ = Value.int .i64 ((if y = x then d else dg y : Nat) : Int)
  by_cases c : x = y
  · rw [if_pos c, if_pos c.symm]; rfl
  · rw [if_neg c, if_neg (fun q : y = x => c q.symm)]; exact h y
theorem zero3 (w : World) : (zeroValue 3).run Try.prog w = .ok (.int .i64 0) w := by kernel_rfl
theorem DgM.look {L : List (St × Value)} {dg : St → Nat} (h : DgM L dg) {w : World} {b : Nat} (hm : atM w b L) (y : St) : (Instr.lookup 64 (.map (some b)) (.string y) false).run Try.prog w = .ok (.int .i64 (dg y : Nat)) w := by
  have := look_any 64 3 Try.underlying64 _ (zero3 _) hm y
  rw [this, h y]
/-- What reachAcyclic holds in memory. -/
structure Kw (w wr : World) (L : List (St × Value)) (rv : Value) (R : List St) : Prop where
  m : atM wr w.heap.size L
  own : wr.ownsRow (w.heap.size + 1) 9 1 rv R.length (R.map Value.string)
  below : Below w.heap.size w wr
section
variable {w wr wq w1 : World} {L : List (St × Value)} {rv : Value} {R : List St}
theorem Kw.put (h : Kw w wr L rv R) (L' : List (St × Value)) : Kw w (putM wr w.heap.size L') L' rv R :=
  ⟨putM_same (atM_lt h.m) _, h.own.kept (putM_grown _ _ _) (Or.inr (fun c => by have := own_blk h.own _ c; omega)), h.below.trans (putM_below _ _ _ _ (Nat.le_refl _))⟩
theorem Kw.push (h : Kw w wr L rv R) (m : St) (hw1 : w1 = wr.alloc (.cells #[.string m] 9)) (g cap : Nat) (hown : wq.ownsRow (w.heap.size + 1) 9 1 (.slice (some ⟨g, 0, none⟩) (R.length + 1) cap) (R.length + 1) (R.map Value.string ++ [.string m])) (hg : w1.grownBy wq rv.ownBlock) :
    Kw w wq L (.slice (some ⟨g, 0, none⟩) (R ++ [m]).length cap) (R ++ [m]) := by
  have q1 : atM w1 w.heap.size L := by rw [hw1]; exact atM_alloc h.m _
  have q3 : Below w.heap.size w w1 := by rw [hw1]; exact h.below.alloc h.below.size _
  exact ⟨atM_grown q1 hg (fun c => by have := own_blk h.own _ c; omega), by simpa using hown, below_grown q3 hg q3.size (fun k hk => by have := own_blk h.own _ hk; omega)⟩
theorem Kw.pop {g cap n : Nat} {u : St} (h : Kw w wr L (.slice (some ⟨g, 0, none⟩) n cap) (R ++ [u])) (hn : n = R.length + 1) : Kw w wr L (.slice (some ⟨g, 0, none⟩) R.length cap) R := by
  refine ⟨h.m, ?_, h.below⟩
  have ho := h.own
  refine ⟨by simp, Or.inr ?_⟩
  rcases ho.2 with ⟨c, _⟩ | ⟨g', cap', cur, e, h1, h2, h3, h4, h5, h6⟩
  · cases c
  · simp only [Value.slice.injEq, Option.some.injEq, Addr.mk.injEq] at e
    obtain ⟨⟨rfl, _, _⟩, _, rfl⟩ := e
    refine ⟨g, cap, cur, rfl, h1, h2, by simp at h3; omega, h4, h5, ?_⟩
    have := congrArg (List.take R.length) h6
    simpa [List.take_take] using this
end
end Go.Proofs.Qxb6603449a.BL
