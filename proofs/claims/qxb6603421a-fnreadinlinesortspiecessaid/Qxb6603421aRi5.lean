import Derived.Test.Qxb6603421aRi4
import Derived.Test.Qxb6603421aUsed
namespace Go.Proofs.Qxb6603421a.RI
open Go.RowKit
set_option linter.unusedVariables false
set_option linter.unusedSimpArgs false

theorem bytes_yes (s : ByteArray) (X Y : Array Value) (w : World) (h : s.size ≤ 1048576) :
    Calls Try.prog 24 #[.string s, .agg X, .agg Y] w fun e w' => e = .returned (.bool true) ∧ Below w.heap.size w w' := by
  go_enter Try.func24, Try.ntmps24
  go_wp2
  go_ret
  exact ⟨rfl, ((Below.refl _ _).alloc (Nat.le_refl _) _).alloc (by simp) _⟩
theorem bytes_no (s : ByteArray) (X Y : Array Value) (w : World) (h : ¬ s.size ≤ 1048576) (hm : s.size ≤ maxLen) :
    Calls Try.prog 24 #[.string s, .agg X, .agg Y] w fun e w' => e = .returned (.bool false) ∧ Below w.heap.size w w' := by
  unfold maxLen at hm
  go_enter Try.func24, Try.ntmps24
  go_wp2
  go_ret
  exact ⟨rfl, ((Below.refl _ _).alloc (Nat.le_refl _) _).alloc (by simp) _⟩

theorem range_of {w : World} {g : Nat} {C : List Value} {t : TypeId} (h : w.heap[g]? = some (.cells C.toArray t (0, 0))) : w.rangeAt g 0 C := fun j v hv => by
  rw [Nat.zero_add, cell_of_row w g j _ t (0, 0) h]; simpa using hv
theorem there_of {w : World} {g : Nat} {C : List Value} {t : TypeId} (h : w.heap[g]? = some (.cells C.toArray t (0, 0))) : w.there g 0 C.length := fun j hj => by
  rw [Nat.zero_add]
  refine ⟨?_, frozen_of_row w g j _ t h⟩
  rw [cell_of_row w g j _ t (0, 0) h]; simp [hj]

/-- Six arrays that the law reads. -/
def zs : Array Value := (icells (List.replicate 16 0)).toArray
theorem two_stores {w : World} {C D : List Value} (hC : C.length = 16) (hD : D.length = 16) :
    let W := ((w.alloc (.cells zs 46)).alloc (.cells zs 46))
    W.there w.heap.size 0 C.length ∧ (W.setCells w.heap.size 0 C).there (w.heap.size + 1) 0 D.length ∧
      ((W.setCells w.heap.size 0 C).setCells (w.heap.size + 1) 0 D).heap[w.heap.size]? = some (.cells C.toArray 46 (0, 0)) ∧
      ((W.setCells w.heap.size 0 C).setCells (w.heap.size + 1) 0 D).heap[w.heap.size + 1]? = some (.cells D.toArray 46 (0, 0)) ∧
      Below w.heap.size w ((W.setCells w.heap.size 0 C).setCells (w.heap.size + 1) 0 D) ∧
      ((W.setCells w.heap.size 0 C).setCells (w.heap.size + 1) 0 D).heap.size = w.heap.size + 2 := by
  intro W
  have b1 : W.heap[w.heap.size]? = some (.cells zs 46 (0, 0)) := heap_alloc2_old w _ _
  have b2 : W.heap[w.heap.size + 1]? = some (.cells zs 46 (0, 0)) := heap_alloc2_new w _ _
  have lz : (icells (List.replicate 16 0)).length = 16 := by simp [icells]
  have t1 := there_of (C := icells (List.replicate 16 0)) b1
  have t2 := there_of (C := icells (List.replicate 16 0)) b2
  rw [lz] at t1 t2
  have hb : Below w.heap.size w W := ((Below.refl _ _).alloc (Nat.le_refl _) _).alloc (by rw [size_al]; omega) _
  refine ⟨by rw [hC]; exact t1, by rw [hD]; exact World.there_setCells t2 _ _ _, ?_, ?_, below_setCells (below_setCells hb _ (Nat.le_refl _) _ _) _ (by omega) _ _, ?_⟩
  · rw [heap_setCells_other _ _ _ _ _ (by omega)]
    exact heap_setCells_whole _ C W _ 46 b1 (by simp [zs, icells, hC])
  · exact heap_setCells_whole _ D _ _ 46 (by rw [heap_setCells_other _ _ _ _ _ (by omega)]; exact b2) (by simp [zs, icells, hD])
  · rw [size_setCells, size_setCells]; show ((w.alloc _).alloc _).heap.size = _; rw [size_al, size_al]

theorem zz_at (s : ByteArray) (Z : List (Int × Int)) (hZ : Z.length = 16) (X Y : List Value) (hX : X = icells (Z.map (·.1))) (hY : Y = icells (Z.map (·.2))) (w : World) (hm : s.size ≤ 1048576) (hP : (P (am s) s.size s.size).length ≤ 16) :
    Calls Try.prog 26 #[.string s, .agg X.toArray, .agg Y.toArray] w fun e w' => ZzPost s Z w e w' := by
  subst hX hY; exact zz_any s Z hZ w hm hP
/-- The six arrays that the law reads, each in its block. -/
structure Six (Z V : List (Int × Int)) (ps : List (Nat × Nat)) (w w2 w3 wr : World) : Prop where
  a : at46 wr w.heap.size (Z.map (·.1))
  b : at46 wr (w.heap.size + 1) (Z.map (·.2))
  c : at46 wr w2.heap.size (pad (ps.map (·.1)))
  d : at46 wr (w2.heap.size + 1) (pad (ps.map (·.2)))
  e : at46 wr w3.heap.size (V.map (·.1))
  f : at46 wr (w3.heap.size + 1) (V.map (·.2))
  below : Below w.heap.size w wr
  past : w3.heap.size + 1 < wr.heap.size
theorem Six.on {Z V : List (Int × Int)} {ps : List (Nat × Nat)} {w w2 w3 wr wq : World} (h : Six Z V ps w w2 w3 wr) (h2 : w2.heap.size + 1 < wr.heap.size) (h0 : w.heap.size + 1 < wr.heap.size) (hb : Below wr.heap.size wr wq) : Six Z V ps w w2 w3 wq := by
  have hp := h.past
  have hs := hb.size
  exact ⟨(hb.block _ (by omega)).trans h.a, (hb.block _ (by omega)).trans h.b, (hb.block _ (by omega)).trans h.c, (hb.block _ (by omega)).trans h.d, (hb.block _ (by omega)).trans h.e, (hb.block _ (by omega)).trans h.f, h.below.trans (hb.mono (by omega)), by omega⟩

/-! ### A variable that is an array of bools -/
def bcells (u : List Bool) : List Value := u.map Value.bool
abbrev at52 (w : World) (g : Nat) (u : List Bool) : Prop := w.heap[g]? = some (.cells (bcells u).toArray 52 (0, 0))
theorem at52_cell {w : World} {g : Nat} {u : List Bool} (h : at52 w g u) (k : Nat) (hk : k < u.length) : w.cell? ⟨g, k, none⟩ = some (.bool (u.getD k false)) := by
  rw [cell_of_row w g k _ 52 (0, 0) h]; simp [bcells, hk]
theorem at52_fr {w : World} {g : Nat} {u : List Bool} (h : at52 w g u) (j : Nat) : w.frozen? ⟨g, j, none⟩ = false := frozen_of_row w g j _ 52 h
theorem at52_set {w : World} {g : Nat} {u : List Bool} (h : at52 w g u) (k : Nat) (v : Bool) : at52 (w.setCell ⟨g, k, none⟩ (.bool v)) g (u.set k v) := by
  unfold at52; rw [heap_setCell_same w g k _ 52 _ h]
  simp [bcells, List.map_set]
theorem over_past (Q : List (Nat × Nat)) (Z : List (Int × Int)) (k : Nat) (h : Q.length ≤ k) : (over Q Z).getD k (0, 0) = Z.getD k (0, 0) := by
  unfold over
  simp only [List.getD_eq_getElem?_getD]
  rw [List.getElem?_append_right (by simpa using h), List.length_map, List.getElem?_drop, show Q.length + (k - Q.length) = k from by omega]
theorem map1_getD (V : List (Int × Int)) (k : Nat) : (V.map (·.1)).getD k 0 = (V.getD k (0, 0)).1 := by
  simp only [List.getD_eq_getElem?_getD, List.getElem?_map]; cases V[k]? <;> rfl
theorem map2_getD (V : List (Int × Int)) (k : Nat) : (V.map (·.2)).getD k 0 = (V.getD k (0, 0)).2 := by
  simp only [List.getD_eq_getElem?_getD, List.getElem?_map]; cases V[k]? <;> rfl
theorem pad1_getD (ps : List (Nat × Nat)) (q : Nat) (h : q < ps.length) : (pad (ps.map (·.1))).getD q 0 = ((ps.getD q (0, 0)).1 : Int) := by
  unfold pad
  simp only [List.getD_eq_getElem?_getD]
  rw [List.getElem?_append_left (by simpa using h)]
  simp [h]
theorem pad2_getD (ps : List (Nat × Nat)) (q : Nat) (h : q < ps.length) : (pad (ps.map (·.2))).getD q 0 = ((ps.getD q (0, 0)).2 : Int) := by
  unfold pad
  simp only [List.getD_eq_getElem?_getD]
  rw [List.getElem?_append_left (by simpa using h)]
  simp [h]
/-- The cells that a round reads. -/
theorem Six.tail {Z V : List (Int × Int)} {ps Q : List (Nat × Nat)} {w w2 w3 wr : World} (h : Six Z V ps w w2 w3 wr) (hZ : Z.length = 16) (hVl : V.length = 16) (hV : V = over Q Z) (k : Nat) (hk : k < 16) (hq : Q.length ≤ k) :
    ∃ x y : Int, wr.cell? ⟨w3.heap.size, k, none⟩ = some (.int .i64 x) ∧ wr.cell? ⟨w3.heap.size + 1, k, none⟩ = some (.int .i64 y) ∧ wr.cell? ⟨w.heap.size, k, none⟩ = some (.int .i64 x) ∧ wr.cell? ⟨w.heap.size + 1, k, none⟩ = some (.int .i64 y) := by
  refine ⟨(Z.getD k (0, 0)).1, (Z.getD k (0, 0)).2, ?_, ?_, ?_, ?_⟩
  · rw [at46_cell h.e k (by simp; omega), map1_getD, hV, over_past Q Z k hq]
  · rw [at46_cell h.f k (by simp; omega), map2_getD, hV, over_past Q Z k hq]
  · rw [at46_cell h.a k (by simp; omega), map1_getD]
  · rw [at46_cell h.b k (by simp; omega), map2_getD]

structure Seen (Z V : List (Int × Int)) (ps Q : List (Nat × Nat)) (w w2 w3 wu : World) (k : Nat) (wr : World) : Prop where
  six : Six Z V ps w w2 w3 wr
  us : at52 wr wu.heap.size (uses ps Q k)
  size : wu.heap.size < wr.heap.size
theorem Seen.on {Z V : List (Int × Int)} {ps Q : List (Nat × Nat)} {w w2 w3 wu wr wq : World} {k : Nat} (h : Seen Z V ps Q w w2 w3 wu k wr) (h2 : w2.heap.size + 1 < wr.heap.size) (h0 : w.heap.size + 1 < wr.heap.size) (hb : Below wr.heap.size wr wq) : Seen Z V ps Q w w2 w3 wu k wq :=
  ⟨h.six.on h2 h0 hb, (hb.block _ h.size).trans h.us, by have := h.size; have := hb.size; omega⟩
theorem Seen.mark {Z V : List (Int × Int)} {ps Q : List (Nat × Nat)} {w w2 w3 wu wr : World} {k : Nat} (h : Seen Z V ps Q w w2 w3 wu k wr) (h2 : w2.heap.size + 1 < wu.heap.size) (h0 : w.heap.size + 1 < wu.heap.size) (h3 : w3.heap.size + 1 < wu.heap.size) (q : Nat) (hu : (uses ps Q k).set q true = uses ps Q (k + 1)) :
    Seen Z V ps Q w w2 w3 wu (k + 1) (wr.setCell ⟨wu.heap.size, q, none⟩ (.bool true)) := by
  have s6 := h.six
  refine ⟨⟨at46_far s6.a _ _ (by simp <;> omega), at46_far s6.b _ _ (by simp <;> omega), at46_far s6.c _ _ (by simp <;> omega), at46_far s6.d _ _ (by simp <;> omega), at46_far s6.e _ _ (by simp <;> omega), at46_far s6.f _ _ (by simp <;> omega), s6.below.setCell (by simp <;> omega) _, by simp [World.setCell]; exact s6.past⟩, ?_, by simp [World.setCell]; exact h.size⟩
  have := at52_set h.us q true
  rw [hu] at this; exact this
theorem Seen.cells {Z V : List (Int × Int)} {ps Q : List (Nat × Nat)} {w w2 w3 wu wr : World} {k : Nat} (h : Seen Z V ps Q w w2 w3 wu k wr) (h16 : ps.length ≤ 16) (q : Nat) (hq : q < ps.length) :
    wr.cell? ⟨wu.heap.size, q, none⟩ = some (.bool (usedB ps Q k q)) ∧ wr.frozen? ⟨wu.heap.size, q, none⟩ = false ∧ wr.cell? ⟨w2.heap.size, q, none⟩ = some (.int .i64 ((ps.getD q (0, 0)).1 : Int)) ∧ wr.cell? ⟨w2.heap.size + 1, q, none⟩ = some (.int .i64 ((ps.getD q (0, 0)).2 : Int)) := by
  refine ⟨?_, at52_fr h.us q, ?_, ?_⟩
  · rw [at52_cell h.us q (by rw [uses_len]; omega), uses_at _ _ _ _ (by omega)]
  · rw [at46_cell h.six.c q (by rw [pad_len _ (by simpa using h16)]; omega), pad1_getD ps q hq]
  · rw [at46_cell h.six.d q (by rw [pad_len _ (by simpa using h16)]; omega), pad2_getD ps q hq]
theorem Seen.got {Z V : List (Int × Int)} {ps Q : List (Nat × Nat)} {w w2 w3 wu wr : World} {k : Nat} (h : Seen Z V ps Q w w2 w3 wu k wr) (hVl : V.length = 16) (hV : V = over Q Z) (h16 : Q.length ≤ 16) (j : Nat) (hj : j < Q.length) :
    wr.cell? ⟨w3.heap.size, j, none⟩ = some (.int .i64 ((Q.getD j (0, 0)).1 : Int)) ∧ wr.cell? ⟨w3.heap.size + 1, j, none⟩ = some (.int .i64 ((Q.getD j (0, 0)).2 : Int)) := by
  refine ⟨?_, ?_⟩
  · rw [at46_cell h.six.e j (by simp; omega), map1_getD, hV, over_at Q Z j hj]; rfl
  · rw [at46_cell h.six.f j (by simp; omega), map2_getD, hV, over_at Q Z j hj]; rfl

set_option maxRecDepth 100000 in
set_option maxHeartbeats 3200000 in
theorem law_any (s : ByteArray) (Z : List (Int × Int)) (hZ : Z.length = 16) (w : World) (hm : s.size ≤ 1048576) :
    Calls Try.prog 8 #[.string s, .agg (icells (Z.map (·.1))).toArray, .agg (icells (Z.map (·.2))).toArray] w fun e w' => e = .returned (.bool true) ∧ Below w.heap.size w w' := by
  obtain ⟨X, hX⟩ : ∃ X, X = icells (Z.map (·.1)) := ⟨_, rfl⟩
  obtain ⟨Y, hY⟩ : ∃ Y, Y = icells (Z.map (·.2)) := ⟨_, rfl⟩
  rw [← hX, ← hY]
  have HX : Hid (X = icells (Z.map (·.1))) := hX
  have HY : Hid (Y = icells (Z.map (·.2))) := hY
  have b1 := heap_alloc2_old w (.cells X.toArray 46 (0, 0)) (.cells Y.toArray 46 (0, 0))
  have b2 := heap_alloc2_new w (.cells X.toArray 46 (0, 0)) (.cells Y.toArray 46 (0, 0))
  have r1 := range_of b1
  have r2 := range_of b2
  have lX : X.length = 16 := by rw [hX]; simp [icells, hZ]
  have lY : Y.length = 16 := by rw [hY]; simp [icells, hZ]
  have i1 : (Try.prog.info? 46).map (·.size) = some X.length := by rw [lX]; exact inf46
  have i2 : (Try.prog.info? 46).map (·.size) = some Y.length := by rw [lY]; exact inf46
  have bw : Below w.heap.size w _ := ((Below.refl _ _).alloc (Nat.le_refl _) (.cells X.toArray 46 (0, 0))).alloc (by rw [size_al]; omega) (.cells Y.toArray 46 (0, 0))
  have BW : Hid _ := bw
  have R1 : Hid _ := r1
  have R2 : Hid _ := r2
  have I1 : Hid _ := i1
  have I2 : Hid _ := i2
  have B1 : Hid _ := b1
  have B2 : Hid _ := b2
  clear hX hY r1 r2 i1 i2 b1 b2 bw
  go_enter Try.func8, Try.ntmps8
  go_wp2_with (first | (refine wpList_load_mid rfl 46 (.tmp 4) rfl w.heap.size 0 (by kernel_rfl) X _ R1.out und46 rfl I1.out ?_) | (refine wpList_load_mid rfl 46 (.tmp 5) rfl (w.heap.size + 1) 0 (by kernel_rfl) Y _ R2.out und46 rfl I2.out ?_) | (go_at_call 24; refine (bytes_yes s _ _ _ hm).mono ?_; rintro e w1 ⟨rfl, hb1⟩; have HB1 : Hid _ := hb1; clear hb1))
  refine (model_any s _ hm).mono ?_
  rintro e w2 ⟨ps, b, hps16, rfl, hps, hb2⟩
  have lC : (icells (pad (ps.map (·.1)))).length = 16 := by simp [icells, pad_len (ps.map (·.1)) (by simpa using hps16)]
  have lD : (icells (pad (ps.map (·.2)))).length = 16 := by simp [icells, pad_len (ps.map (·.2)) (by simpa using hps16)]
  obtain ⟨C, hC⟩ : ∃ C, C = icells (pad (ps.map (·.1))) := ⟨_, rfl⟩
  obtain ⟨D, hD⟩ : ∃ D, D = icells (pad (ps.map (·.2))) := ⟨_, rfl⟩
  rw [← hC] at lC ⊢
  rw [← hD] at lD ⊢
  have oC : ∀ v ∈ C, v.oneCell' = true := by rw [hC]; exact icells_one _
  have oD : ∀ v ∈ D, v.oneCell' = true := by rw [hD]; exact icells_one _
  have j1 : (Try.prog.info? 46).map (·.size) = some C.length := by rw [lC]; exact inf46
  have j2 : (Try.prog.info? 46).map (·.size) = some D.length := by rw [lD]; exact inf46
  have ts := two_stores (w := w2) lC lD
  have HC : Hid _ := hC
  have HD : Hid _ := hD
  have LC : Hid _ := lC
  have LD : Hid _ := lD
  have OC : Hid _ := oC
  have OD : Hid _ := oD
  have J1 : Hid _ := j1
  have J2 : Hid _ := j2
  have TS : Hid _ := ts
  have HPS : Hid _ := hps
  have HB2 : Hid _ := hb2
  clear hC hD lC lD oC oD j1 j2 ts hps hb2
  cases b
  · go_wp2_with (first | (refine wpList_store_mid rfl 46 (.tmp 7) (.tmp 30) rfl w2.heap.size 0 C.toArray (by kernel_rfl) (by kernel_rfl) (by exact TS.out.1) (by exact J1.out) (all_oneCell_toArray OC.out) ?_) | (refine wpList_store_mid rfl 46 (.tmp 8) (.tmp 31) rfl (w2.heap.size + 1) 0 D.toArray (by kernel_rfl) (by kernel_rfl) (by exact TS.out.2.1) (by exact J2.out) (all_oneCell_toArray OD.out) ?_))
    go_ret
    exact ⟨rfl, ((BW.out.trans (HB1.out.mono (by rw [size_al, size_al]; omega))).trans (HB2.out.mono (by have := HB1.out.size; rw [size_al, size_al] at this; omega))).trans (TS.out.2.2.2.2.1.mono (by have := HB1.out.size; have := HB2.out.size; rw [size_al, size_al] at *; omega))⟩
  · have hw0 : w.heap.size + 2 ≤ w1.heap.size := by have := HB1.out.size; rw [size_al, size_al] at this; omega
    have hw12 := HB2.out.size
    have hps := HPS.out rfl
    obtain ⟨W2, hW2⟩ : ∃ W2, W2 = (((((w2.alloc (.cells zs 46)).alloc (.cells zs 46)).setCells w2.heap.size 0 C).setCells (w2.heap.size + 1) 0 D)) := ⟨_, rfl⟩
    have ts := TS.out
    simp only [← hW2] at ts
    obtain ⟨_, _, k1, k2, kb, ksz⟩ := ts
    have x1 : W2.heap[w.heap.size]? = some (.cells X.toArray 46 (0, 0)) := (kb.block _ (by omega)).trans ((HB2.out.block _ (by omega)).trans ((HB1.out.block _ (by rw [size_al, size_al]; omega)).trans B1.out))
    have y1 : W2.heap[w.heap.size + 1]? = some (.cells Y.toArray 46 (0, 0)) := (kb.block _ (by omega)).trans ((HB2.out.block _ (by omega)).trans ((HB1.out.block _ (by rw [size_al, size_al]; omega)).trans B2.out))
    have bw2 : Below w.heap.size w W2 := ((BW.out.trans (HB1.out.mono (by rw [size_al, size_al]; omega))).trans (HB2.out.mono (by omega))).trans (kb.mono (by omega))
    have rx := range_of x1
    have ry := range_of y1
    have K1 : Hid _ := k1
    have K2 : Hid _ := k2
    have X1 : Hid _ := x1
    have Y1 : Hid _ := y1
    have BW2 : Hid _ := bw2
    have RX : Hid _ := rx
    have RY : Hid _ := ry
    have HW2 : Hid _ := hW2
    have KS : Hid _ := ksz
    have HPS2 : Hid _ := hps
    have hP16 : (P (am s) s.size s.size).length ≤ 16 := by rw [← hps]; exact hps16
    have HP16 : Hid _ := hP16
    clear k1 k2 kb ksz x1 y1 bw2 rx ry hps hP16
    subst hW2
    go_wp2_with (first | (refine wpList_store_mid rfl 46 (.tmp 7) (.tmp 30) rfl w2.heap.size 0 C.toArray (by kernel_rfl) (by kernel_rfl) (by exact TS.out.1) (by exact J1.out) (all_oneCell_toArray OC.out) ?_) | (refine wpList_store_mid rfl 46 (.tmp 8) (.tmp 31) rfl (w2.heap.size + 1) 0 D.toArray (by kernel_rfl) (by kernel_rfl) (by exact TS.out.2.1) (by exact J2.out) (all_oneCell_toArray OD.out) ?_) | (refine wpList_load_mid rfl 46 (.tmp 4) rfl w.heap.size 0 (by kernel_rfl) X _ (by exact RX.out) und46 rfl I1.out ?_) | (refine wpList_load_mid rfl 46 (.tmp 5) rfl (w.heap.size + 1) 0 (by kernel_rfl) Y _ (by exact RY.out) und46 rfl I2.out ?_))
    refine (zz_at s Z hZ X Y HX.out HY.out _ hm HP16.out).mono ?_
    rintro e w3 ⟨Q, hperm, hout, rfl, hb3⟩
    have hQl : Q.length = ps.length := by rw [hperm.length_eq, HPS2.out]
    obtain ⟨V, hV⟩ : ∃ V, V = over Q Z := ⟨_, rfl⟩
    rw [← hV]
    have hVl : V.length = 16 := by rw [hV, over_len _ _ (by omega), hZ]
    have lE : (icells (V.map (·.1))).length = 16 := by simp [icells, hVl]
    have lF : (icells (V.map (·.2))).length = 16 := by simp [icells, hVl]
    obtain ⟨E, hE⟩ : ∃ E, E = icells (V.map (·.1)) := ⟨_, rfl⟩
    obtain ⟨F, hF⟩ : ∃ F, F = icells (V.map (·.2)) := ⟨_, rfl⟩
    rw [← hE] at lE ⊢
    rw [← hF] at lF ⊢
    have oE : ∀ v ∈ E, v.oneCell' = true := by rw [hE]; exact icells_one _
    have oF : ∀ v ∈ F, v.oneCell' = true := by rw [hF]; exact icells_one _
    have j1 : (Try.prog.info? 46).map (·.size) = some E.length := by rw [lE]; exact inf46
    have j2 : (Try.prog.info? 46).map (·.size) = some F.length := by rw [lF]; exact inf46
    have ts := two_stores (w := w3) lE lF
    obtain ⟨W3, hW3⟩ : ∃ W3, W3 = (((((w3.alloc (.cells zs 46)).alloc (.cells zs 46)).setCells w3.heap.size 0 E).setCells (w3.heap.size + 1) 0 F)) := ⟨_, rfl⟩
    have hb3' : Below (((((w2.alloc (.cells zs 46)).alloc (.cells zs 46)).setCells w2.heap.size 0 C).setCells (w2.heap.size + 1) 0 D)).heap.size (((((w2.alloc (.cells zs 46)).alloc (.cells zs 46)).setCells w2.heap.size 0 C).setCells (w2.heap.size + 1) 0 D)) w3 := hb3
    have hs3 : w2.heap.size + 2 ≤ w3.heap.size := by have h := hb3'.size; rw [show (((((w2.alloc (.cells zs 46)).alloc (.cells zs 46)).setCells w2.heap.size 0 C).setCells (w2.heap.size + 1) 0 D)).heap.size = w2.heap.size + 2 from KS.out] at h; exact h
    rw [show (((((w2.alloc (.cells zs 46)).alloc (.cells zs 46)).setCells w2.heap.size 0 C).setCells (w2.heap.size + 1) 0 D)).heap.size = w2.heap.size + 2 from KS.out] at hb3'
    have six : Six Z V ps w w2 w3 W3 := by
      obtain ⟨_, _, k1, k2, kb, ksz⟩ := ts
      rw [hW3]
      refine ⟨?_, ?_, ?_, ?_, ?_, ?_, ?_, ?_⟩
      · exact (kb.block _ (by omega)).trans ((hb3'.block _ (by omega)).trans (X1.out.trans (by rw [HX.out])))
      · exact (kb.block _ (by omega)).trans ((hb3'.block _ (by omega)).trans (Y1.out.trans (by rw [HY.out])))
      · exact (kb.block _ (by omega)).trans ((hb3'.block _ (by omega)).trans (K1.out.trans (by rw [HC.out])))
      · exact (kb.block _ (by omega)).trans ((hb3'.block _ (by omega)).trans (K2.out.trans (by rw [HD.out])))
      · exact k1.trans (by rw [hE])
      · exact k2.trans (by rw [hF])
      · exact (BW2.out.trans (hb3'.mono (by omega))).trans (kb.mono (by omega))
      · rw [ksz]; omega
    have SIX : Hid _ := six
    have TS3 : Hid _ := ts
    have OE : Hid _ := oE
    have OF : Hid _ := oF
    have J3 : Hid _ := j1
    have J4 : Hid _ := j2
    have HV : Hid _ := hV
    have HPE : Hid _ := hperm
    have HOU : Hid _ := hout
    have hnm : ((Q.length : Int) != (ps.length : Int)) = false := by rw [hQl]; simp
    clear six ts oE oF j1 j2 hV hE hF lE lF hb3 hb3' hperm hout hQl
    subst hW3
    clear HX HY R1 R2 B1 B2 BW HC HD LC LD OC OD J1 J2 TS HPS HB2 K1 K2 X1 Y1 BW2 RX RY HW2 KS HP16 HB1 I1 I2
    go_wp2_with (first | (refine wpList_store_mid rfl 46 (.tmp 12) (.tmp 42) rfl w3.heap.size 0 E.toArray (by kernel_rfl) (by kernel_rfl) (by exact TS3.out.1) (by exact J3.out) (all_oneCell_toArray OE.out) ?_) | (refine wpList_store_mid rfl 46 (.tmp 13) (.tmp 43) rfl (w3.heap.size + 1) 0 F.toArray (by kernel_rfl) (by kernel_rfl) (by exact TS3.out.2.1) (by exact J4.out) (all_oneCell_toArray OF.out) ?_))
    go_loopw [14] (fun i wr => ∃ k : Nat, i = .int .i64 k ∧ Q.length ≤ k ∧ k ≤ 16 ∧ Hid (Six Z V ps w w2 w3 wr)) (fun i _ => 16 - (intOf i).toNat)
    case atStart => exact ⟨Q.length, rfl, Nat.le_refl _, by have := HPE.out.length_eq; rw [← HPS2.out] at this; omega, SIX⟩
    case round =>
      obtain ⟨k, rfl, hqk, hk, hsx⟩ := hrel
      clear SIX TS3
      by_cases hlt : k < 16
      · obtain ⟨x, y, ce, cf, ca, cb⟩ := hsx.out.tail hZ hVl HV.out k hlt hqk
        have hki : (k : Int) < 16 := by omega
        go_wp2
        go_quiet (fail)
        go_wp2
        go_roundw
        case rel => exact ⟨k + 1, by go_num, by omega, by omega, hsx.out.on (by have := hsx.out.past; omega) (by have := hsx.out.past; omega) (below_drewN (Below.refl _ _) _)⟩
        case measure => simp [intOf]; omega
      · have hQl : Q.length = ps.length := by have := HPE.out.length_eq; rw [← HPS2.out] at this; exact this
        have hp3 := hsx.out.past
        obtain ⟨wu, rfl⟩ : ∃ wu : World, wu = wr := ⟨_, rfl⟩
        have hse : Seen Z V ps Q w w2 w3 wu 0 (wu.alloc (.cells (bcells (List.replicate 16 false)).toArray 52)) :=
          ⟨hsx.out.on (by omega) (by omega) ((Below.refl _ _).alloc (Nat.le_refl _) _), by rw [uses_zero]; exact heap_alloc_new wu _, by rw [size_al]; omega⟩
        have HSE : Hid _ := hse
        have hnd : ps.Nodup := by rw [HPS2.out]; exact P_nodup _ _ _
        have hpq : Q.Perm ps := by have := HPE.out; rw [← HPS2.out] at this; exact this
        have hin : ∀ p ∈ Q, p.1 < p.2 ∧ p.2 ≤ s.size := fun p hp => P_in _ _ _ (Nat.le_refl _) p (HPE.out.mem_iff.mp hp)
        have HND : Hid _ := hnd
        have HPQ : Hid _ := hpq
        have HIN : Hid _ := hin
        clear hse hnd hpq hin hsx hqk
        go_wp2
        go_loopw [16] (fun i wr => ∃ j : Nat, i = .int .i64 j ∧ j ≤ Q.length ∧ Hid (Seen Z V ps Q w w2 w3 wu j wr)) (fun i _ => Q.length - (intOf i).toNat)
        case atStart => exact ⟨0, rfl, Nat.zero_le _, HSE⟩
        case round =>
          obtain ⟨j, rfl, hj, hs⟩ := hrel
          clear HSE
          by_cases hjl : j < Q.length
          · obtain ⟨q, hq, heq, hun, hne, hset⟩ := place HPQ.out HND.out hps16 j hjl
            have HEQ : Hid _ := heq
            have HUN : Hid _ := hun
            have HNE : Hid _ := hne
            have HST : Hid _ := hset
            clear heq hun hne hset
            go_wp2
            go_loopw [17, 18] (fun f i wr => ∃ t : Nat, f = .int .i64 (-1) ∧ i = .int .i64 t ∧ t ≤ q ∧ Hid (Seen Z V ps Q w w2 w3 wu j wr)) (fun _ i _ => q - (intOf i).toNat)
            case atStart => exact ⟨0, rfl, rfl, Nat.zero_le _, hs⟩
            case round =>
              obtain ⟨t, rfl, rfl, ht, hs⟩ := hrel
              obtain ⟨cu, fu, c1, c2⟩ := hs.out.cells hps16 t (by omega)
              obtain ⟨g1, g2⟩ := hs.out.got hVl HV.out (by omega) j hjl
              have hti : (t : Int) < (ps.length : Int) := by omega
              have ht16 : (t : Int) < 16 := by omega
              have hj16 : (j : Int) < 16 := by omega
              by_cases htq : t < q
              · have hd := HNE.out t (by omega) (by omega)
                obtain ⟨b, hb⟩ : ∃ b, b = usedB ps Q j t := ⟨_, rfl⟩
                rw [← hb] at cu
                obtain ⟨p, hp⟩ : ∃ p, p = ps.getD t (0, 0) := ⟨_, rfl⟩
                obtain ⟨r, hr⟩ : ∃ r, r = Q.getD j (0, 0) := ⟨_, rfl⟩
                rw [← hp] at c1 c2 hd
                rw [← hr] at g1 g2 hd
                obtain ⟨p1, p2⟩ := p
                obtain ⟨r1, r2⟩ := r
                have hd' : ¬ (p1 = r1 ∧ p2 = r2) := fun h => hd (by rw [h.1, h.2])
                simp only at c1 c2 g1 g2
                clear hb hp hr hd
                have HS : Hid _ := hs
                cases b
                · by_cases e1 : p1 = r1
                  · have e2 : ((p2 : Int) == (r2 : Int)) = false := by
                      simp only [beq_eq_false_iff_ne]; intro e; exact hd' ⟨e1, by omega⟩
                    have e1' : ((p1 : Int) == (r1 : Int)) = true := by rw [e1]; simp
                    clear e1 hd'
                    go_wp2
                    go_quiet (fail)
                    go_wp2
                    go_roundw
                    case rel => exact ⟨t + 1, rfl, by go_num, by omega, hs.out.on (by have := hs.out.six.past; omega) (by have := hs.out.six.past; omega) (below_drewN (Below.refl _ _) _)⟩
                    case measure => simp [intOf]; omega
                  · have e1' : ((p1 : Int) == (r1 : Int)) = false := by
                      simp only [beq_eq_false_iff_ne]; intro e; exact e1 (by omega)
                    clear e1 hd'
                    go_wp2
                    go_quiet (fail)
                    go_wp2
                    go_roundw
                    case rel => exact ⟨t + 1, rfl, by go_num, by omega, hs.out.on (by have := hs.out.six.past; omega) (by have := hs.out.six.past; omega) (below_drewN (Below.refl _ _) _)⟩
                    case measure => simp [intOf]; omega
                · clear hd'
                  go_wp2
                  go_quiet (fail)
                  go_wp2
                  go_roundw
                  case rel => exact ⟨t + 1, rfl, by go_num, by omega, hs.out.on (by have := hs.out.six.past; omega) (by have := hs.out.six.past; omega) (below_drewN (Below.refl _ _) _)⟩
                  case measure => simp [intOf]; omega
              · obtain rfl : t = q := by omega
                rw [HUN.out] at cu
                rw [HEQ.out] at c1 c2
                have hir := HIN.out _ (getD_mem Q j hjl)
                obtain ⟨r, hr⟩ : ∃ r, r = Q.getD j (0, 0) := ⟨_, rfl⟩
                rw [← hr] at c1 c2 g1 g2 hir
                have HR : Hid _ := hr
                obtain ⟨r1, r2⟩ := r
                simp only at c1 c2 g1 g2 hir
                obtain ⟨hr12, hr2s⟩ := hir
                clear hr htq
                have hp3' : w3.heap.size ≠ wu.heap.size := by omega
                have hp3'' : w3.heap.size + 1 ≠ wu.heap.size := by omega
                rcases Nat.eq_zero_or_pos j with hj0 | hjp
                · have hjn : ¬ 0 < j := by omega
                  have hjb : decide ((0 : Int) < (j : Int)) = false := by simp; omega
                  clear hj0
                  go_wp2
                  go_quiet (fail)
                  go_wp2
                  go_quiet (fail)
                  go_wp2
                  go_roundw
                  case rel => exact ⟨j + 1, by go_num, by omega, ((hs.out.on (by have := hs.out.six.past; omega) (by have := hs.out.six.past; omega) (below_drewN (Below.refl _ _) _)).mark (by omega) (by omega) hp3 t HST.out).on (by have := hs.out.six.past; simp [World.setCell]; omega) (by have := hs.out.six.past; simp [World.setCell]; omega) (below_drewN (Below.refl _ _) _)⟩
                  case measure => simp [intOf]; omega
                · obtain ⟨h1, h2⟩ := hs.out.got hVl HV.out (by omega) (j - 1) (by omega)
                  have hip := HIN.out _ (getD_mem Q (j - 1) (by omega))
                  have hle : Op.bytesLess (s.extract r1 r2).toList (s.extract (Q.getD (j - 1) (0, 0)).1 (Q.getD (j - 1) (0, 0)).2).toList = false := by
                    have := HOU.out j hjp hjl
                    unfold okAt at this
                    rw [← HR.out] at this
                    exact this
                  obtain ⟨z, hz⟩ : ∃ z, z = Q.getD (j - 1) (0, 0) := ⟨_, rfl⟩
                  rw [← hz] at h1 h2 hip hle
                  obtain ⟨z1, z2⟩ := z
                  simp only at h1 h2 hip hle
                  obtain ⟨hz12, hz2s⟩ := hip
                  clear hz
                  have hji : (0 : Int) < (j : Int) := by omega
                  have hj1 : (1 : Int) ≤ (j : Int) := by omega
                  have k1 : (r1 : Int) ≤ (r2 : Int) := by omega
                  have k2 : (r2 : Int) ≤ (s.size : Int) := by omega
                  have k3 : (z1 : Int) ≤ (z2 : Int) := by omega
                  have k4 : (z2 : Int) ≤ (s.size : Int) := by omega
                  have k5 : r1 ≤ r2 := by omega
                  have k6 : z1 ≤ z2 := by omega
                  go_wp2
                  go_quiet (fail)
                  go_wp2
                  go_quiet (fail)
                  go_wp2
                  go_roundw
                  case rel => exact ⟨j + 1, by go_num, by omega, ((hs.out.on (by have := hs.out.six.past; omega) (by have := hs.out.six.past; omega) (below_drewN (Below.refl _ _) _)).mark (by omega) (by omega) hp3 t HST.out).on (by have := hs.out.six.past; simp [World.setCell]; omega) (by have := hs.out.six.past; simp [World.setCell]; omega) (below_drewN (Below.refl _ _) _)⟩
                  case measure => simp [intOf]; omega
          · go_wp2
            go_ret
            exact ⟨rfl, hs.out.six.below⟩
end Go.Proofs.Qxb6603421a.RI
