import Derived.Test.Qxb6603421aSd5
namespace Go.Proofs.Qxb6603421a.SD
open Go.RowKit Go.Proofs.Qxb6603421a.RI
set_option linter.unusedVariables false
set_option linter.unusedSimpArgs false

/-! ### Which bytes of W the keys share -/
def kw (k : Ky) : Nat := k.1
def Bits (A O : Nat) (G : List Ky) (i : Nat) : Prop := A < 18446744073709551616 ∧ O < 18446744073709551616 ∧ ∀ x ∈ G.take i, (∀ k, A.testBit k = true → x.1.testBit k = true) ∧ (∀ k, x.1.testBit k = true → O.testBit k = true)
theorem bits_zero (G : List Ky) : Bits 18446744073709551615 0 G 0 := ⟨by decide, by decide, fun x hx => by simp at hx⟩
theorem Bits.next {A O i : Nat} {G : List Ky} (h : Bits A O G i) (hi : i < G.length) (x1 : Nat) (hx : (G.getD i (0, 0)).1 = x1) (hx64 : x1 < 18446744073709551616) : Bits (A &&& x1) (O ||| x1) G (i + 1) := by
  refine ⟨Nat.lt_of_le_of_lt Nat.and_le_left h.1, ?_, ?_⟩
  · have := Nat.or_lt_two_pow (n := 64) (x := O) (y := x1) h.2.1 hx64
    exact this
  · intro y hy
    rw [List.take_succ_eq_append_getElem hi] at hy
    rcases List.mem_append.1 hy with hy | hy
    · obtain ⟨a, b⟩ := h.2.2 y hy
      refine ⟨fun k hk => a k ?_, fun k hk => ?_⟩
      · rw [Nat.testBit_and] at hk; exact (Bool.and_eq_true _ _ ▸ hk).1
      · rw [Nat.testBit_or, b k hk]; rfl
    · have e : y = G[i] := by simpa using hy
      have e2 : y.1 = x1 := by rw [e, ← hx]; simp [hi]
      rw [e2]
      refine ⟨fun k hk => ?_, fun k hk => ?_⟩
      · rw [Nat.testBit_and] at hk; exact (Bool.and_eq_true _ _ ▸ hk).2
      · rw [Nat.testBit_or, hk, Bool.or_true]
theorem byte_bit (x b k : Nat) : (x / 256 ^ b % 256).testBit k = (decide (k < 8) && x.testBit (8 * b + k)) := by
  rw [show (256 : Nat) = 2 ^ 8 from rfl, ← Nat.pow_mul, Nat.testBit_mod_two_pow, Nat.testBit_div_two_pow, Nat.add_comm]
theorem shared {A O : Nat} {G : List Ky} (h : Bits A O G G.length) (b : Nat) (hz : (A ^^^ O) / 256 ^ b % 256 = 0) : ∀ x ∈ G, dg kw b x = A / 256 ^ b % 256 := by
  intro x hx
  obtain ⟨a, o⟩ := h.2.2 x (by rw [List.take_length]; exact hx)
  unfold dg kw
  apply Nat.eq_of_testBit_eq
  intro k
  have hk := byte_bit (A ^^^ O) b k
  rw [hz, Nat.zero_testBit, Nat.testBit_xor] at hk
  rw [byte_bit, byte_bit]
  by_cases k8 : k < 8
  · simp only [k8, decide_true, Bool.true_and] at hk ⊢
    have ha := a (8 * b + k)
    have ho := o (8 * b + k)
    generalize A.testBit (8 * b + k) = p at *
    generalize O.testBit (8 * b + k) = q at *
    generalize x.1.testBit (8 * b + k) = r at *
    clear hz
    revert hk ha ho
    cases p <;> cases q <;> cases r <;> decide
  · simp [k8]

/-! ### The chosen bytes -/
structure Sel (G : List Ky) (b : Nat) (ps : List Nat) : Prop where
  sorted : ps.Pairwise (· < ·)
  lt : ∀ c ∈ ps, c < b
  len : ps.length ≤ b
  out : ∀ c, c < b → c ∉ ps → ∃ d, ∀ x ∈ G, dg kw c x = d
theorem sel_zero (G : List Ky) : Sel G 0 [] := ⟨List.Pairwise.nil, fun c hc => by simp at hc, Nat.le_refl _, fun c hc => by omega⟩
theorem Sel.add {G : List Ky} {b : Nat} {ps : List Nat} (h : Sel G b ps) : Sel G (b + 1) (ps ++ [b]) := by
  refine ⟨?_, ?_, by simp; exact h.len, ?_⟩
  · rw [List.pairwise_append]
    exact ⟨h.sorted, List.pairwise_singleton _ _, fun a ha c hc => by rw [List.mem_singleton] at hc; rw [hc]; exact h.lt a ha⟩
  · intro c hc
    rcases List.mem_append.1 hc with hc | hc
    · have := h.lt c hc; omega
    · rw [List.mem_singleton] at hc; omega
  · intro c hc hn
    have n1 : c ∉ ps := fun x => hn (List.mem_append_left _ x)
    have n2 : c ≠ b := fun x => hn (List.mem_append_right _ (by rw [x]; exact List.mem_singleton_self _))
    exact h.out c (by omega) n1
theorem Sel.pass {G : List Ky} {b : Nat} {ps : List Nat} (h : Sel G b ps) (d : Nat) (hd : ∀ x ∈ G, dg kw b x = d) : Sel G (b + 1) ps := by
  refine ⟨h.sorted, fun c hc => by have := h.lt c hc; omega, by have := h.len; omega, fun c hc hn => ?_⟩
  by_cases e : c = b
  · exact ⟨d, by rw [e]; exact hd⟩
  · exact h.out c (by omega) hn
def nx (ps : List Nat) (p : Nat) : Nat := ps.getD p 8
theorem skips {G L : List Ky} {ps : List Nat} (h : Sel G 8 ps) (a n : Nat) (hb : a + n ≤ 8) (hc : ∀ c, a ≤ c → c < a + n → c ∉ ps) (hs : SS (fun x => kw x % 256 ^ a) L G) : SS (fun x => kw x % 256 ^ (a + n)) L G := by
  induction n with
  | zero => exact hs
  | succ n ih =>
    obtain ⟨d, hd⟩ := h.out (a + n) (by omega) (hc _ (by omega) (by omega))
    exact SS.skip kw (a + n) d (ih (by omega) (fun c h1 h2 => hc c h1 (by omega))) hd
theorem nx_le {G : List Ky} {ps : List Nat} (h : Sel G 8 ps) (p : Nat) : nx ps p ≤ 8 := by
  unfold nx
  by_cases hp : p < ps.length
  · have e : ps.getD p 8 = ps[p] := by simp [hp]
    rw [e]; have := h.lt _ (List.getElem_mem hp); omega
  · have e : ps.getD p 8 = 8 := by simp [show ps.length ≤ p by omega]
    omega
theorem gap {G : List Ky} {ps : List Nat} (h : Sel G 8 ps) (p c : Nat) (h1 : ∀ q, q < p → (hq : q < ps.length) → ps[q] < c) (h2 : c < nx ps p) : c ∉ ps := by
  intro hc
  obtain ⟨q, hq, e⟩ := List.getElem_of_mem hc
  by_cases hqp : q < p
  · have := h1 q hqp hq; omega
  · have hp : p < ps.length := by omega
    have e2 : ps.getD p 8 = ps[p] := by simp [hp]
    unfold nx at h2
    rw [e2] at h2
    by_cases hqe : q = p
    · subst hqe; omega
    · have := List.pairwise_iff_getElem.1 h.sorted p q hp hq (by omega); omega
theorem sel_first {G : List Ky} {ps : List Nat} (h : Sel G 8 ps) : SS (fun x => kw x % 256 ^ (nx ps 0)) G G := by
  have := skips h 0 (nx ps 0) (by have := nx_le h 0; omega) (fun c _ h2 => gap h 0 c (fun q hq => by omega) (by omega)) (ss_mod_zero kw G)
  simpa using this
theorem sel_step {G L : List Ky} {ps : List Nat} (h : Sel G 8 ps) (p : Nat) (hp : p < ps.length) (hs : SS (fun x => kw x % 256 ^ (nx ps p)) L G) : SS (fun x => kw x % 256 ^ (nx ps (p + 1))) (SD.pass kw (nx ps p) L) G := by
  have e : nx ps p = ps[p] := by unfold nx; simp [hp]
  have hb := SS.by_digit kw (nx ps p) hs
  have hlt : nx ps p + 1 ≤ nx ps (p + 1) := by
    by_cases hp1 : p + 1 < ps.length
    · have e1 : nx ps (p + 1) = ps[p + 1] := by unfold nx; simp [hp1]
      rw [e, e1]; exact List.pairwise_iff_getElem.1 h.sorted p (p + 1) hp hp1 (by omega)
    · have e1 : nx ps (p + 1) = 8 := by unfold nx; simp [show ps.length ≤ p + 1 by omega]
      rw [e, e1]; exact h.lt _ (List.getElem_mem hp)
  have := skips h (nx ps p + 1) (nx ps (p + 1) - (nx ps p + 1)) (by have := nx_le h (p + 1); omega) (fun c h1 h2 => gap h (p + 1) c (fun q hq hql => by
    have hq2 : ps[q] ≤ ps[p] := by
      by_cases hqe : q = p
      · subst hqe; exact Nat.le_refl _
      · exact Nat.le_of_lt (List.pairwise_iff_getElem.1 h.sorted q p hql hp (by omega))
    omega) (by omega)) hb
  rw [show nx ps p + 1 + (nx ps (p + 1) - (nx ps p + 1)) = nx ps (p + 1) from by omega] at this
  exact this
theorem sel_last {G L : List Ky} {ps : List Nat} (hok : Okl G) (hs : SS (fun x => kw x % 256 ^ (nx ps ps.length)) L G) : SS (rk false) L G := by
  have e : nx ps ps.length = 8 := by unfold nx; simp
  rw [e] at hs
  exact ss_mod_full kw (fun x hx => (hok x hx).1) hs

/-! ### Counts: a row of 2048 numbers, told by a function -/
@[irreducible] def cc (F : Nat → Nat) : Array Value := Array.ofFn (n := 2048) fun i => Value.int .u32 (F i.val : Int)
theorem cc_size (F : Nat → Nat) : (cc F).size = 2048 := by unfold cc; simp
theorem cc_at (F : Nat → Nat) (t : Nat) (h : t < 2048) : (cc F)[t]? = some (.int .u32 (F t : Int)) := by unfold cc; simp [h]
def upd (F : Nat → Nat) (t x : Nat) : Nat → Nat := fun s => if s = t then x else F s
theorem cc_set (F : Nat → Nat) (t x : Nat) : (cc F).setIfInBounds t (.int .u32 (x : Int)) = cc (upd F t x) := by
  apply Array.ext_getElem?
  intro i
  by_cases hi : i < 2048
  · rw [cc_at _ i hi, Array.getElem?_setIfInBounds]
    by_cases e : t = i
    · subst e
      rw [if_pos rfl, if_pos (by rw [cc_size]; exact hi)]
      simp [upd]
    · rw [if_neg e, cc_at _ i hi]
      simp [upd, show ¬ i = t by omega]
  · rw [Array.getElem?_eq_none (by rw [Array.size_setIfInBounds, cc_size]; omega), Array.getElem?_eq_none (by rw [cc_size]; omega)]
theorem cc_zero : cc (fun _ => 0) = Array.replicate 2048 (.int .u32 0) := by
  apply Array.ext_getElem?
  intro i
  by_cases hi : i < 2048
  · rw [cc_at _ i hi]; simp [hi]
  · rw [Array.getElem?_eq_none (by rw [cc_size]; omega), Array.getElem?_eq_none (by simp; omega)]
theorem cnt_le (b v : Nat) (L : List Ky) : cnt kw b v L ≤ L.length := by unfold cnt fil; exact List.length_filter_le _ _
def Cnt (F : Nat → Nat) (ps : List Nat) (G : List Ky) (p i : Nat) : Prop :=
  (∀ q, q < p → ∀ v, v < 256 → F (q * 256 + v) = cnt kw (nx ps q) v G) ∧ (∀ v, v < 256 → F (p * 256 + v) = cnt kw (nx ps p) v (G.take i)) ∧ (∀ q, p < q → ∀ v, v < 256 → F (q * 256 + v) = 0)
theorem cnt_zero (ps : List Nat) (G : List Ky) : Cnt (fun _ => 0) ps G 0 0 := by
  refine ⟨fun q hq => by omega, fun v _ => ?_, fun _ _ _ _ => rfl⟩
  simp [cnt, fil]
theorem Cnt.next {F : Nat → Nat} {ps : List Nat} {G : List Ky} {p i : Nat} (h : Cnt F ps G p i) (hi : i < G.length) (d : Nat) (hd : dg kw (nx ps p) (G.getD i (0, 0)) = d) : Cnt (upd F (p * 256 + d) (F (p * 256 + d) + 1)) ps G p (i + 1) := by
  have e : G.getD i (0, 0) = G[i] := by simp [hi]
  rw [e] at hd
  have hd2 : d < 256 := by rw [← hd]; exact dg_lt _ _ _
  refine ⟨fun q hq v hv => ?_, fun v hv => ?_, fun q hq v hv => ?_⟩
  · unfold upd; rw [if_neg (by omega)]; exact h.1 q hq v hv
  · rw [List.take_succ_eq_append_getElem hi, cnt_snoc, hd]
    unfold upd
    by_cases ev : d = v
    · subst ev; rw [if_pos rfl, if_pos rfl, h.2.1 d hv]
    · rw [if_neg (by omega), if_neg ev, h.2.1 v hv]; rfl
  · unfold upd; rw [if_neg (by omega)]; exact h.2.2 q hq v hv
theorem Cnt.turn {F : Nat → Nat} {ps : List Nat} {G : List Ky} {p : Nat} (h : Cnt F ps G p G.length) : Cnt F ps G (p + 1) 0 := by
  refine ⟨fun q hq v hv => ?_, fun v hv => ?_, fun q hq v hv => h.2.2 q (by omega) v hv⟩
  · by_cases e : q = p
    · rw [e, h.2.1 v hv, List.take_length]
    · exact h.1 q (by omega) v hv
  · rw [h.2.2 (p + 1) (by omega) v hv]; simp [cnt, fil]
/-- The counts of the passes that are still to come. -/
def Rest (F : Nat → Nat) (ps : List Nat) (G : List Ky) (p : Nat) : Prop := ∀ q, p ≤ q → q < ps.length → ∀ v, v < 256 → F (q * 256 + v) = cnt kw (nx ps q) v G
theorem Cnt.rest {F : Nat → Nat} {ps : List Nat} {G : List Ky} (h : Cnt F ps G ps.length 0) : Rest F ps G 0 := fun q _ hq v hv => h.1 q hq v hv
theorem Rest.upd {F : Nat → Nat} {ps : List Nat} {G : List Ky} {p : Nat} (h : Rest F ps G (p + 1)) (v x : Nat) (hv : v < 256) : Rest (upd F (p * 256 + v) x) ps G (p + 1) := fun q h1 h2 u hu => by
  unfold SD.upd; rw [if_neg (by omega)]; exact h q h1 h2 u hu
theorem ss_cnt {b v a : Nat} {L G : List Ky} (h : SS (fun x => kw x % 256 ^ a) L G) : cnt kw b v L = cnt kw b v G := by
  have hp : L.Perm G := by
    rw [List.perm_iff_count]
    intro x
    have e := congrArg (List.count x) (h.2 (kw x % 256 ^ a))
    rw [List.count_filter (by simp), List.count_filter (by simp)] at e
    exact e
  unfold cnt fil
  exact (hp.filter _).length_eq
/-- In the prefix loop of pass p. -/
def Pre (F : Nat → Nat) (b : Nat) (L : List Ky) (p k : Nat) : Prop := (∀ v, v < k → F (p * 256 + v) = start kw b L v) ∧ (∀ v, k ≤ v → v < 256 → F (p * 256 + v) = cnt kw b v L)
theorem Pre.next {F : Nat → Nat} {b : Nat} {L : List Ky} {p k : Nat} (h : Pre F b L p k) (hk : k < 256) : Pre (SD.upd F (p * 256 + k) (start kw b L k)) b L p (k + 1) := by
  refine ⟨fun v hv => ?_, fun v h1 h2 => ?_⟩
  · unfold SD.upd
    by_cases e : v = k
    · rw [e, if_pos rfl]
    · rw [if_neg (by omega)]; exact h.1 v (by omega)
  · unfold SD.upd; rw [if_neg (by omega)]; exact h.2 v (by omega) h2
/-- In the laying loop of pass p. -/
def Lay (F : Nat → Nat) (b : Nat) (L : List Ky) (p i : Nat) : Prop := ∀ v, v < 256 → F (p * 256 + v) = start kw b L v + cnt kw b v (L.take i)
theorem Pre.lay {F : Nat → Nat} {b : Nat} {L : List Ky} {p : Nat} (h : Pre F b L p 256) : Lay F b L p 0 := fun v hv => by
  rw [h.1 v hv]; simp [cnt, fil]
theorem Lay.next {F : Nat → Nat} {b : Nat} {L : List Ky} {p i : Nat} (h : Lay F b L p i) (hi : i < L.length) (d : Nat) (hd : dg kw b (L.getD i (0, 0)) = d) : Lay (SD.upd F (p * 256 + d) (F (p * 256 + d) + 1)) b L p (i + 1) := by
  have e : L.getD i (0, 0) = L[i] := by simp [hi]
  rw [e] at hd
  intro v hv
  rw [List.take_succ_eq_append_getElem hi, cnt_snoc, hd]
  unfold SD.upd
  by_cases ev : d = v
  · subst ev; rw [if_pos rfl, if_pos rfl, h d hv]; omega
  · rw [if_neg (by omega), if_neg ev, h v hv]; rfl
theorem Lay.place {F : Nat → Nat} {b : Nat} {L D : List Ky} {p i : Nat} (h : Lay F b L p i) (hD : Dist kw b L D i) (hi : i < L.length) (x1 : Nat) (x2 : Int) (hx : (x1, x2) = L.getD i (0, 0)) (d : Nat) (hd : dg kw b (x1, x2) = d) :
    F (p * 256 + d) < L.length ∧ Dist kw b L (D.set (F (p * 256 + d)) (x1, x2)) (i + 1) := by
  have e : L.getD i (0, 0) = L[i] := by simp [hi]
  rw [e] at hx
  rw [hx] at hd
  have hd2 : d < 256 := by rw [← hd]; exact dg_lt _ _ _
  have hc := cnt_take_lt kw b L i hi
  rw [hd] at hc
  refine ⟨by rw [h d hd2]; exact place_lt kw b L d _ hd2 hc, ?_⟩
  have := hD.next kw hi
  rw [hd] at this
  rw [h d hd2, hx]
  exact this

/-! ### The row of shifts -/
def shl (ps : List Nat) : List Value := (ps.map (fun c => Value.int .i64 ((8 * c : Nat) : Int))) ++ List.replicate (8 - ps.length) (.int .i64 0)
theorem shl_at (ps : List Nat) (p : Nat) (h : p < ps.length) : (shl ps)[p]? = some (.int .i64 ((8 * nx ps p : Nat) : Int)) := by
  unfold shl nx
  rw [List.getElem?_append_left (by simpa using h)]
  simp [h]
theorem shl_zero (ps : List Nat) (h : ps.length < 8) : (shl ps)[ps.length]? = some (.int .i64 0) := by
  unfold shl
  rw [List.getElem?_append_right (by simp), List.length_map, Nat.sub_self, List.getElem?_replicate, if_pos (by omega)]
theorem shl_set (ps : List Nat) (b : Nat) (h : ps.length < 8) : (shl ps).set ps.length (.int .i64 ((8 * b : Nat) : Int)) = shl (ps ++ [b]) := by
  unfold shl
  rw [List.set_append_right _ _ (by simp), List.length_map, Nat.sub_self, show 8 - ps.length = (8 - (ps ++ [b]).length) + 1 from by simp; omega, List.replicate_succ, List.set_cons_zero, List.map_append, List.append_assoc]
  rfl
end Go.Proofs.Qxb6603421a.SD
