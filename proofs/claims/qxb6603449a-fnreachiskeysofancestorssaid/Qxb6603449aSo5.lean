import Derived.Test.Qxb6603449aSo4
namespace Go.Proofs.Qxb6603449a.SO
open Go.RowKit
set_option linter.unusedVariables false
set_option linter.unusedSimpArgs false

/-! ### order2Ordered, medianOrdered, medianAdjacentOrdered, choosePivotOrdered: they write nothing but the count -/
abbrev cntAt (w : World) (p : Nat) (s : Nat) : Prop := w.heap[p]? = some (.cells #[.int .i64 (s : Int)] 3 (0, 0))
theorem cnt_lt {w : World} {p s : Nat} (h : cntAt w p s) : p < w.heap.size := by
  by_cases hx : p < w.heap.size
  · exact hx
  · unfold cntAt at h; rw [Array.getElem?_eq_none (by omega)] at h; cases h
theorem cnt_at {w : World} {p s : Nat} (h : cntAt w p s) : w.cell? ⟨p, 0, none⟩ = some (.int .i64 (s : Int)) := by rw [cell_of_row w p _ _ 3 (0, 0) h]; rfl
theorem cnt_fr {w : World} {p s : Nat} (h : cntAt w p s) : w.frozen? ⟨p, 0, none⟩ = false := frozen_of_row w p 0 _ 3 h
theorem cnt_set {w : World} {p s : Nat} (h : cntAt w p s) (m : Nat) (x : Nat) : cntAt ((w.drewN m).setCell ⟨p, 0, none⟩ (.int .i64 (x : Int))) p x := by
  have h' : cntAt (w.drewN m) p s := h
  unfold cntAt; rw [heap_setCell_same _ p _ _ 3 _ h']; rfl
/-- Two rows: the numbers, the count; nothing but the count has turned. -/
structure Ct (w wr : World) (g n p : Nat) (V : List Value) (d : Fn) (s : Nat) : Prop where
  row : rowD wr g n V d
  cnt : cntAt wr p s
  ne : g ≠ p
  fr : w.grownBy wr (some p)
theorem Ct.on {w wr wq : World} {g n p s t : Nat} {V : List Value} {d : Fn} (h : Ct w wr g n p V d s) (k : Ct wr wq g n p V d t) : Ct w wq g n p V d t := ⟨k.row, k.cnt, k.ne, grown_trans h.fr k.fr⟩
def O2Post (a b g n p s : Nat) (V : List Value) (d : Fn) (w : World) (e : Ending) (w' : World) : Prop := ∃ x y t : Nat, e = .returned (.tuple #[.int .i64 (x : Int), .int .i64 (y : Int)]) ∧ ((x = a ∧ y = b) ∨ (x = b ∧ y = a)) ∧ t ≤ s + 1 ∧ Ct w w' g n p V d t
theorem order2_any (g n cap a b p s : Nat) (V : List Value) (d : Fn) (w : World) (ha : a < n) (hb : b < n) (hs : s ≤ 1000) (h : Ct w w g n p V d s) :
    Calls Try.prog 60 #[.slice (some ⟨g, 0, none⟩) n cap, .int .i64 a, .int .i64 b, .pointer (some ⟨p, 0, none⟩)] w fun e w' => O2Post a b g n p s V d w e w' := by
  have H : Hid (Ct w w g n p V d s) := h
  have c1 := rowD_at h.row a ha
  have c2 := rowD_at h.row b hb
  have c3 := cnt_at h.cnt
  have f3 := cnt_fr h.cnt
  obtain ⟨x, hx⟩ : ∃ x, d a = x := ⟨_, rfl⟩
  obtain ⟨y, hy⟩ : ∃ y, d b = y := ⟨_, rfl⟩
  rw [hx] at c1
  rw [hy] at c2
  obtain ⟨t, ht⟩ : ∃ t, t = decide (y < x) := ⟨_, rfl⟩
  have HT : Hid _ := ht
  have a1 : (a : Int) < (n : Int) := by omega
  have b1 : (b : Int) < (n : Int) := by omega
  clear h hx hy ht
  cases t
  · go_enter Try.func60, Try.ntmps60
    go_wp2
    go_quiet ((go_at_call 49; first | with_reducible exact less_q0 y x HT.out | with_reducible exact less_q y x HT.out))
    go_wp2
    go_ret2
    exact ⟨a, b, s, rfl, Or.inl ⟨rfl, rfl⟩, by omega, H.out.row, H.out.cnt, H.out.ne, grown_drewN (grown_refl _ _) _⟩
  · go_enter Try.func60, Try.ntmps60
    go_wp2
    go_quiet ((go_at_call 49; first | with_reducible exact less_q0 y x HT.out | with_reducible exact less_q y x HT.out))
    go_wp2
    go_ret2
    refine ⟨b, a, s + 1, rfl, Or.inr ⟨rfl, rfl⟩, by omega, ?_, cnt_set H.out.cnt _ (s + 1), H.out.ne, grown_set (grown_drewN (grown_refl _ _) _) _ _⟩
    unfold rowD
    rw [heap_setCell_other _ _ _ _ (by exact H.out.ne)]
    exact H.out.row
def MdPost (a b c g n p s : Nat) (V : List Value) (d : Fn) (w : World) (e : Ending) (w' : World) : Prop := ∃ m t : Nat, e = .returned (.int .i64 (m : Int)) ∧ (m = a ∨ m = b ∨ m = c) ∧ t ≤ s + 3 ∧ Ct w w' g n p V d t
theorem Ct.self {w wr : World} {g n p s : Nat} {V : List Value} {d : Fn} (h : Ct w wr g n p V d s) : Ct wr wr g n p V d s := ⟨h.row, h.cnt, h.ne, grown_refl _ _⟩
theorem median_any (g n cap a b c p s : Nat) (V : List Value) (d : Fn) (w : World) (ha : a < n) (hb : b < n) (hc : c < n) (hs : s ≤ 900) (h : Ct w w g n p V d s) :
    Calls Try.prog 58 #[.slice (some ⟨g, 0, none⟩) n cap, .int .i64 a, .int .i64 b, .int .i64 c, .pointer (some ⟨p, 0, none⟩)] w fun e w' => MdPost a b c g n p s V d w e w' := by
  have H : Hid (Ct w w g n p V d s) := h
  clear h
  go_enter Try.func58, Try.ntmps58
  go_wp2_with fail
  refine (order2_any g n cap a b p s V d w ha hb (by omega) H.out).mono ?_
  rintro e w1 ⟨x1, y1, t1, rfl, hxy1, ht1, h1⟩
  have H1 : Hid _ := h1
  have X1 : Hid _ := hxy1
  have x1n : x1 < n := by omega
  have y1n : y1 < n := by omega
  clear h1 hxy1
  go_wp2_with fail
  refine (order2_any g n cap y1 c p t1 V d w1 y1n hc (by omega) H1.out.self).mono ?_
  rintro e w2 ⟨x2, y2, t2, rfl, hxy2, ht2, h2⟩
  have H2 : Hid (Ct w w2 g n p V d t2) := H1.out.on h2
  have X2 : Hid _ := hxy2
  have x2n : x2 < n := by omega
  clear h2 hxy2
  go_wp2_with fail
  refine (order2_any g n cap x1 x2 p t2 V d w2 x1n x2n (by omega) H2.out.self).mono ?_
  rintro e w3 ⟨x3, y3, t3, rfl, hxy3, ht3, h3⟩
  have H3 : Hid (Ct w w3 g n p V d t3) := H2.out.on h3
  have X3 : Hid _ := hxy3
  clear h3 hxy3
  go_wp2
  go_ret
  refine ⟨y3, t3, rfl, ?_, by omega, H3.out⟩
  have q1 := X1.out; have q2 := X2.out; have q3 := X3.out
  omega
theorem medAdj_any (g n cap a p s : Nat) (V : List Value) (d : Fn) (w : World) (ha : 1 ≤ a) (hb : a + 1 < n) (hn : n ≤ 1099511627776) (hs : s ≤ 900) (h : Ct w w g n p V d s) :
    Calls Try.prog 57 #[.slice (some ⟨g, 0, none⟩) n cap, .int .i64 a, .pointer (some ⟨p, 0, none⟩)] w fun e w' => MdPost (a - 1) a (a + 1) g n p s V d w e w' := by
  have H : Hid (Ct w w g n p V d s) := h
  clear h
  have e1 : (a : Int) - 1 = ((a - 1 : Nat) : Int) := by omega
  have e2 : (a : Int) + 1 = ((a + 1 : Nat) : Int) := by omega
  have E1 : Hid _ := e1
  have E2 : Hid _ := e2
  clear e1 e2
  go_enter Try.func57, Try.ntmps57
  go_wp2_with fail
  have m1 := median_any g n cap (a - 1) a (a + 1) p s V d w (by omega) (by omega) hb hs H.out
  rw [← E1.out, ← E2.out] at m1
  refine m1.mono ?_
  clear m1
  rintro e w1 ⟨m, t, rfl, hm, ht, h1⟩
  have H1 : Hid _ := h1
  have X1 : Hid _ := hm
  clear h1 hm
  go_wp2
  go_ret
  exact ⟨m, t, rfl, X1.out, ht, H1.out⟩
def CpPost (g n a b : Nat) (V : List Value) (d : Fn) (w : World) (e : Ending) (w' : World) : Prop := ∃ piv h : Nat, e = .returned (.tuple #[.int .i64 (piv : Int), .int .i64 (h : Int)]) ∧ a ≤ piv ∧ piv < b ∧ h ≤ 2 ∧ Sr w w' g n V d
theorem cp_of {w wr : World} {g n p s : Nat} {V : List Value} {d : Fn} (h : Ct (w.alloc (.cells #[.int .i64 0] 3)) wr g n p V d s) (hp : p = w.heap.size) : Sr w wr g n V d := by
  have z : (w.alloc (.cells #[.int .i64 0] 3)).heap.size = w.heap.size + 1 := by simp
  have z2 := h.fr.size
  refine ⟨h.row, ⟨h.fr.os, h.fr.tape, h.fr.output, by omega, fun k hk hne => ?_⟩⟩
  exact (h.fr.block k (by omega) (by simp; omega)).trans (Below.heap_alloc w _ k hk)
/-- The end of choosePivot: the three hints. -/
theorem three (t : Nat) : (((t : Int) == 0) = true) ∨ (((t : Int) == 0) = false ∧ ((t : Int) == 12) = true) ∨ (((t : Int) == 0) = false ∧ ((t : Int) == 12) = false) := by
  by_cases h0 : (t : Int) = 0
  · left; simpa using h0
  · by_cases h1 : (t : Int) = 12
    · right; left; exact ⟨by simpa using h0, by simpa using h1⟩
    · right; right; exact ⟨by simpa using h0, by simpa using h1⟩
set_option maxHeartbeats 4000000 in
theorem pivot_any (g n cap a b : Nat) (V : List Value) (d : Fn) (w : World) (hab : a + 13 ≤ b) (hbn : b ≤ n) (hn : n ≤ 1099511627776) (hr : rowD w g n V d) :
    Calls Try.prog 46 #[.slice (some ⟨g, 0, none⟩) n cap, .int .i64 a, .int .i64 b] w fun e w' => CpPost g n a b V d w e w' := by
  have H0 : Hid (Ct (w.alloc (.cells #[.int .i64 0] 3)) (w.alloc (.cells #[.int .i64 0] 3)) g n w.heap.size V d 0) :=
    ⟨by unfold rowD; rw [Below.heap_alloc w _ g (rowD_lt hr)]; exact hr, heap_alloc_new w _, by have := rowD_lt hr; omega, grown_refl _ _⟩
  clear hr
  obtain ⟨l, hl⟩ : ∃ l, l = b - a := ⟨_, rfl⟩
  have hbi : (b : Int) - (a : Int) = (l : Int) := by omega
  obtain ⟨q, hq⟩ : ∃ q, q = l / 4 := ⟨_, rfl⟩
  have hqi : (l : Int).tdiv 4 = (q : Int) := by rw [Int.tdiv_eq_ediv_of_nonneg (by omega)]; omega
  have hqw : wrap64 (q : Int) = (q : Int) := by unfold wrap64; omega
  have q3 : 3 ≤ q := by omega
  have q4 : 4 * q ≤ l := by omega
  have HB : Hid (b = a + l) := by unfold Hid; omega
  have hal : a + l ≤ n := by omega
  have l13 : 13 ≤ l := by omega
  have HQ : Hid (l < 4 * q + 4) := by unfold Hid; omega
  clear hl hq
  obtain ⟨i, hi⟩ : ∃ i, i = a + q := ⟨_, rfl⟩
  obtain ⟨j, hj⟩ : ∃ j, j = a + q * 2 := ⟨_, rfl⟩
  obtain ⟨k, hk⟩ : ∃ k, k = a + q * 3 := ⟨_, rfl⟩
  have ei : (a : Int) + (q : Int) = (i : Int) := by omega
  have ej : (a : Int) + (q : Int) * 2 = (j : Int) := by omega
  have ek : (a : Int) + (q : Int) * 3 = (k : Int) := by omega
  have HI : Hid (i = a + q ∧ j = a + q * 2 ∧ k = a + q * 3) := ⟨hi, hj, hk⟩
  have bi : i < n ∧ j < n ∧ k < n := by omega
  clear hi hj hk
  have t8 : decide ((8 : Int) ≤ (l : Int)) = true := by simp only [decide_eq_true_eq]; omega
  by_cases h50 : 50 ≤ l
  · have t50 : decide ((50 : Int) ≤ (l : Int)) = true := by simp only [decide_eq_true_eq]; omega
    have b2 : 1 ≤ i ∧ 1 ≤ j ∧ 1 ≤ k ∧ i + 1 < n ∧ j + 1 < n ∧ k + 1 < n := by have := HI.out; omega
    go_enter Try.func46, Try.ntmps46
    go_wp2_with fail
    refine (medAdj_any g n cap i w.heap.size 0 V d _ b2.1 b2.2.2.2.1 hn (by omega) H0.out).mono ?_
    rintro e w1 ⟨m1, t1, rfl, hm1, ht1, h1⟩
    have H1 : Hid _ := h1
    have X1 : Hid _ := hm1
    clear h1 hm1
    go_wp2_with fail
    refine (medAdj_any g n cap j w.heap.size t1 V d w1 b2.2.1 b2.2.2.2.2.1 hn (by omega) H1.out.self).mono ?_
    rintro e w2 ⟨m2, t2, rfl, hm2, ht2, h2⟩
    have H2 : Hid (Ct _ w2 g n w.heap.size V d t2) := H1.out.on h2
    have X2 : Hid _ := hm2
    clear h2 hm2
    go_wp2_with fail
    refine (medAdj_any g n cap k w.heap.size t2 V d w2 b2.2.2.1 b2.2.2.2.2.2 hn (by omega) H2.out.self).mono ?_
    rintro e w3 ⟨m3, t3, rfl, hm3, ht3, h3⟩
    have H3 : Hid (Ct _ w3 g n w.heap.size V d t3) := H2.out.on h3
    have X3 : Hid _ := hm3
    clear h3 hm3
    have mn : m1 < n ∧ m2 < n ∧ m3 < n := by have := X1.out; have := X2.out; have := X3.out; omega
    go_wp2_with fail
    refine (median_any g n cap m1 m2 m3 w.heap.size t3 V d w3 mn.1 mn.2.1 mn.2.2 (by omega) H3.out.self).mono ?_
    rintro e w4 ⟨m4, t4, rfl, hm4, ht4, h4⟩
    have H4 : Hid (Ct _ w4 g n w.heap.size V d t4) := H3.out.on h4
    have X4 : Hid (a ≤ m4 ∧ m4 < b) := by
      have q1 := X1.out; have q2 := X2.out; have q3' := X3.out; have q5 := HI.out; have q6 := HB.out
      unfold Hid; omega
    clear h4 hm4 X1 X2 X3
    have c4 := cnt_at H4.out.cnt
    rcases three t4 with z0 | ⟨z0, z1⟩ | ⟨z0, z1⟩
    · go_wp2
      go_ret2
      exact ⟨m4, 1, rfl, X4.out.1, X4.out.2, by omega, cp_of H4.out rfl⟩
    · go_wp2
      go_ret2
      exact ⟨m4, 2, rfl, X4.out.1, X4.out.2, by omega, cp_of H4.out rfl⟩
    · go_wp2
      go_ret2
      exact ⟨m4, 0, rfl, X4.out.1, X4.out.2, by omega, cp_of H4.out rfl⟩
  · have t50 : decide ((50 : Int) ≤ (l : Int)) = false := by simp only [decide_eq_false_iff_not]; omega
    go_enter Try.func46, Try.ntmps46
    go_wp2_with fail
    refine (median_any g n cap i j k w.heap.size 0 V d _ bi.1 bi.2.1 bi.2.2 (by omega) H0.out).mono ?_
    rintro e w4 ⟨m4, t4, rfl, hm4, ht4, h4⟩
    have H4 : Hid (Ct _ w4 g n w.heap.size V d t4) := h4
    have X4 : Hid (a ≤ m4 ∧ m4 < b) := by
      have q5 := HI.out; have q6 := HB.out
      unfold Hid; omega
    clear h4 hm4
    have c4 := cnt_at H4.out.cnt
    rcases three t4 with z0 | ⟨z0, z1⟩ | ⟨z0, z1⟩
    · go_wp2
      go_ret2
      exact ⟨m4, 1, rfl, X4.out.1, X4.out.2, by omega, cp_of H4.out rfl⟩
    · go_wp2
      go_ret2
      exact ⟨m4, 2, rfl, X4.out.1, X4.out.2, by omega, cp_of H4.out rfl⟩
    · go_wp2
      go_ret2
      exact ⟨m4, 0, rfl, X4.out.1, X4.out.2, by omega, cp_of H4.out rfl⟩
end Go.Proofs.Qxb6603449a.SO
