import Derived.Test.Qxb6603421aRi3
namespace Go.Proofs.Qxb6603421a.RI
open Go.RowKit
set_option linter.unusedVariables false
set_option linter.unusedSimpArgs false

/-- The first k pairs, zeros behind them. -/
def front (Z : List (Int × Int)) (k : Nat) : List (Int × Int) := Z.take k ++ List.replicate (16 - k) (0, 0)
theorem front_len (Z : List (Int × Int)) (k : Nat) (hZ : Z.length = 16) (hk : k ≤ 16) : (front Z k).length = 16 := by simp [front]; omega
theorem front_zero (Z : List (Int × Int)) : front Z 0 = List.replicate 16 (0, 0) := by simp [front]
theorem front_all (Z : List (Int × Int)) (hZ : Z.length = 16) : front Z 16 = Z := by simp [front, List.take_of_length_le (Nat.le_of_eq hZ)]
theorem front_succ (Z : List (Int × Int)) (k : Nat) (hZ : Z.length = 16) (hk : k < 16) : (front Z k).set k (Z.getD k (0, 0)) = front Z (k + 1) := by
  unfold front
  rw [List.set_append_right _ _ (by simp <;> omega), List.length_take, hZ, Nat.min_eq_left (by omega), Nat.sub_self]
  rw [show 16 - k = (16 - (k + 1)) + 1 from by omega, List.replicate_succ, List.set_cons_zero]
  rw [List.take_succ_eq_append_getElem (by omega), List.append_assoc]
  simp [show k < Z.length by omega]
/-- The same for one of the two. -/
def ffst (Z : List (Int × Int)) (k : Nat) : List Int := (front Z k).map (·.1)
def fsnd (Z : List (Int × Int)) (k : Nat) : List Int := (front Z k).map (·.2)
theorem ffst_succ (Z : List (Int × Int)) (k : Nat) (hZ : Z.length = 16) (hk : k < 16) : (ffst Z k).set k (Z.getD k (0, 0)).1 = ffst Z (k + 1) := by
  unfold ffst; rw [← front_succ Z k hZ hk, List.map_set]
theorem fsnd_succ (Z : List (Int × Int)) (k : Nat) (hZ : Z.length = 16) (hk : k < 16) : (fsnd Z k).set k (Z.getD k (0, 0)).2 = fsnd Z (k + 1) := by
  unfold fsnd; rw [← front_succ Z k hZ hk, List.map_set]

structure Filled (s : ByteArray) (Z : List (Int × Int)) (k : Nat) (w wr : World) : Prop where
  a : at46 wr w.heap.size (Z.map (·.1))
  b : at46 wr (w.heap.size + 1) (Z.map (·.2))
  c : at46 wr (w.heap.size + 1 + 1) (List.replicate 16 0)
  d : at46 wr (w.heap.size + 1 + 1 + 1) (List.replicate 16 0)
  p : at74 wr (w.heap.size + 1 + 1 + 1 + 1) s 0 (front Z k)
  below : Below w.heap.size w wr
  size : w.heap.size + 1 + 1 + 1 + 1 < wr.heap.size
theorem size_al (w : World) (o : Obj) : (w.alloc o).heap.size = w.heap.size + 1 := by
  show (w.heap.push o).size = _; simp
theorem old_al {w : World} {i : Nat} {x : Obj} (h : w.heap[i]? = some x) (o : Obj) : (w.alloc o).heap[i]? = some x := by
  have hi : i < w.heap.size := by
    by_cases hx : i < w.heap.size
    · exact hx
    · rw [Array.getElem?_eq_none (by omega)] at h; cases h
  rw [Below.heap_alloc w o i hi]; exact h
theorem filled_start (s : ByteArray) (Z : List (Int × Int)) (w : World) (X Y : Array Value) (hX : X = (icells (Z.map (·.1))).toArray) (hY : Y = (icells (Z.map (·.2))).toArray) :
    Filled s Z 0 w (((((w.alloc (.cells X 46)).alloc (.cells Y 46)).alloc (.cells (icells (List.replicate 16 0)).toArray 46)).alloc (.cells (icells (List.replicate 16 0)).toArray 46)).alloc (.cells (blk s 0 (List.replicate 16 (0, 0))) 74)) := by
  subst hX hY
  refine ⟨?_, ?_, ?_, ?_, ?_, ?_, ?_⟩
  · exact old_al (old_al (old_al (old_al (heap_alloc_new w _) _) _) _) _
  · have := heap_alloc_new (w.alloc (.cells (icells (Z.map (·.1))).toArray 46)) (.cells (icells (Z.map (·.2))).toArray 46)
    rw [size_al] at this
    exact old_al (old_al (old_al this _) _) _
  · have := heap_alloc_new ((w.alloc (.cells (icells (Z.map (·.1))).toArray 46)).alloc (.cells (icells (Z.map (·.2))).toArray 46)) (.cells (icells (List.replicate 16 0)).toArray 46)
    rw [size_al, size_al] at this
    exact old_al (old_al this _) _
  · have := heap_alloc_new (((w.alloc (.cells (icells (Z.map (·.1))).toArray 46)).alloc (.cells (icells (Z.map (·.2))).toArray 46)).alloc (.cells (icells (List.replicate 16 0)).toArray 46)) (.cells (icells (List.replicate 16 0)).toArray 46)
    rw [size_al, size_al, size_al] at this
    exact old_al this _
  · have := heap_alloc_new ((((w.alloc (.cells (icells (Z.map (·.1))).toArray 46)).alloc (.cells (icells (Z.map (·.2))).toArray 46)).alloc (.cells (icells (List.replicate 16 0)).toArray 46)).alloc (.cells (icells (List.replicate 16 0)).toArray 46)) (.cells (blk s 0 (List.replicate 16 (0, 0))) 74)
    rw [size_al, size_al, size_al, size_al] at this
    rw [front_zero]; exact this
  · exact (((((Below.refl _ _).alloc (by omega) _).alloc (by rw [size_al]; omega) _).alloc (by rw [size_al, size_al]; omega) _).alloc (by rw [size_al, size_al, size_al]; omega) _).alloc (by rw [size_al, size_al, size_al, size_al]; omega) _
  · rw [size_al, size_al, size_al, size_al, size_al]; omega
theorem Filled.next {s : ByteArray} {Z : List (Int × Int)} {k : Nat} {w wr : World} (h : Filled s Z k w wr) (hZ : Z.length = 16) (hk : k < 16) (x y : Int) (hx : x = (Z.getD k (0, 0)).1) (hy : y = (Z.getD k (0, 0)).2) :
    Filled s Z (k + 1) w ((wr.setCell ⟨w.heap.size + 1 + 1 + 1 + 1, 2 + k * 2, none⟩ (.int .i64 x)).setCell ⟨w.heap.size + 1 + 1 + 1 + 1, 2 + k * 2 + 1, none⟩ (.int .i64 y)).drew := by
  have e := blk_set h.p k (by rw [front_len Z k hZ (by omega)]; omega) x y
  rw [show (x, y) = Z.getD k (0, 0) from by rw [hx, hy], front_succ Z k hZ hk] at e
  exact ⟨at46_far (at46_far h.a _ _ (by simp <;> omega)) _ _ (by simp <;> omega), at46_far (at46_far h.b _ _ (by simp <;> omega)) _ _ (by simp <;> omega), at46_far (at46_far h.c _ _ (by simp <;> omega)) _ _ (by simp <;> omega), at46_far (at46_far h.d _ _ (by simp)) _ _ (by simp), e, ((h.below.setCell (by simp <;> omega) _).setCell (by simp <;> omega) _).drew, by simp [World.setCell]; exact h.size⟩

theorem heap_setCells_other (b : Nat) (vs : List Value) (o : Nat) (w : World) (k : Nat) (h : k ≠ b) : (w.setCells b o vs).heap[k]? = w.heap[k]? := by
  induction vs generalizing o w with
  | nil => rfl
  | cons v vs ih => rw [World.setCells, ih, heap_setCell_other _ _ _ _ h]
theorem size_setCells (b : Nat) (vs : List Value) (o : Nat) (w : World) : (w.setCells b o vs).heap.size = w.heap.size := by
  induction vs generalizing o w with
  | nil => rfl
  | cons v vs ih => rw [World.setCells, ih]; simp [World.setCell]
theorem below_setCells {B : Nat} {w wr : World} (h : Below B w wr) (b : Nat) (hb : B ≤ b) (vs : List Value) (o : Nat) : Below B w (wr.setCells b o vs) := by
  induction vs generalizing o wr with
  | nil => exact h
  | cons v vs ih => rw [World.setCells]; exact ih (h.setCell hb v) _
theorem heap_setCells_shape (b : Nat) (vs : List Value) (o : Nat) (w : World) (cs : Array Value) (t : TypeId) (h : w.heap[b]? = some (.cells cs t (0, 0))) :
    ∃ cs', (w.setCells b o vs).heap[b]? = some (.cells cs' t (0, 0)) ∧ cs'.size = cs.size := by
  induction vs generalizing o w cs with
  | nil => exact ⟨cs, h, rfl⟩
  | cons v vs ih =>
    obtain ⟨cs', h1, h2⟩ := ih (o + 1) _ _ (heap_setCell_same w b o cs t v h)
    exact ⟨cs', h1, by rw [h2]; simp⟩
theorem heap_setCells_whole (b : Nat) (vs : List Value) (w : World) (cs : Array Value) (t : TypeId) (h : w.heap[b]? = some (.cells cs t (0, 0))) (hl : cs.size = vs.length) :
    (w.setCells b 0 vs).heap[b]? = some (.cells vs.toArray t (0, 0)) := by
  obtain ⟨cs', h1, h2⟩ := heap_setCells_shape b vs 0 w cs t h
  have hin := World.cell?_setCells_in b vs 0 w (fun j hj => by rw [Nat.zero_add, cell_of_row w b j cs t (0, 0) h]; simp; omega)
  rw [h1]
  congr 2
  apply Array.ext
  · simp; omega
  · intro j hj1 hj2
    have := hin j (by simpa using hj2)
    rw [Nat.zero_add, cell_of_row _ b j cs' t (0, 0) h1] at this
    rw [Array.getElem?_eq_getElem hj1] at this
    simpa using this

structure Copied (s : ByteArray) (n : Nat) (V : List (Int × Int)) (k : Nat) (w w1 wr : World) : Prop where
  c : at46 wr (w.heap.size + 1 + 1) (List.replicate 16 0)
  d : at46 wr (w.heap.size + 1 + 1 + 1) (List.replicate 16 0)
  p : at74 wr (w.heap.size + 1 + 1 + 1 + 1) s n V
  x : at46 wr w1.heap.size (ffst V k)
  y : at46 wr (w1.heap.size + 1) (fsnd V k)
  below : Below w.heap.size w wr
  past : w.heap.size + 1 + 1 + 1 + 1 < w1.heap.size
theorem copied_start {s : ByteArray} {Z V : List (Int × Int)} {k n : Nat} {w wr w1 : World} (h : Filled s Z k w wr) (hb : Below (w.heap.size + 1 + 1 + 1 + 1) wr w1) (hat : at74 w1 (w.heap.size + 1 + 1 + 1 + 1) s n V) :
    Copied s n V 0 w w1 ((w1.alloc (.cells (icells (List.replicate 16 0)).toArray 46)).alloc (.cells (icells (List.replicate 16 0)).toArray 46)) := by
  have h1 : w1.heap[w.heap.size + 1 + 1]? = _ := (hb.block _ (by omega)).trans h.c
  have h2 : w1.heap[w.heap.size + 1 + 1 + 1]? = _ := (hb.block _ (by omega)).trans h.d
  have hs := h.size
  have hs1 := hb.size
  have e1 : ffst V 0 = List.replicate 16 0 := by simp [ffst, front]
  have e2 : fsnd V 0 = List.replicate 16 0 := by simp [fsnd, front]
  refine ⟨old_al (old_al h1 _) _, old_al (old_al h2 _) _, old_al (old_al hat _) _, by rw [e1]; exact heap_alloc2_old w1 _ _, by rw [e2]; exact heap_alloc2_new w1 _ _, ?_, by omega⟩
  exact ((h.below.trans (hb.mono (by omega))).alloc (by omega) _).alloc (by rw [size_al]; omega) _
theorem Copied.next {s : ByteArray} {V : List (Int × Int)} {k n : Nat} {w w1 wr : World} (h : Copied s n V k w w1 wr) (hV : V.length = 16) (hk : k < 16) (x y : Int) (hx : x = (V.getD k (0, 0)).1) (hy : y = (V.getD k (0, 0)).2) :
    Copied s n V (k + 1) w w1 ((wr.setCell ⟨w1.heap.size, k, none⟩ (.int .i64 x)).setCell ⟨w1.heap.size + 1, k, none⟩ (.int .i64 y)) := by
  have hp := h.past
  refine ⟨at46_far (at46_far h.c _ _ (by simp <;> omega)) _ _ (by simp <;> omega), at46_far (at46_far h.d _ _ (by simp <;> omega)) _ _ (by simp <;> omega), ?_, ?_, ?_, (h.below.setCell (by simp <;> omega) _).setCell (by simp <;> omega) _, hp⟩
  · unfold at74; rw [heap_setCell_other _ _ _ _ (by simp <;> omega), heap_setCell_other _ _ _ _ (by simp <;> omega)]; exact h.p
  · have := at46_far (at46_set h.x k x) ⟨w1.heap.size + 1, k, none⟩ (.int .i64 y) (by simp)
    rw [hx, ffst_succ V k hV hk] at this; rw [hx]; exact this
  · have := at46_set (at46_far h.y ⟨w1.heap.size, k, none⟩ (.int .i64 x) (by simp)) k y
    rw [hy, fsnd_succ V k hV hk] at this; rw [hy]; exact this

theorem res26 (tmps : Array Value) (W : World) (n : Int) (b1 b2 : Nat) (C D : List Value) (h6 : tmps.getD 6 undef = .int .i64 n) (h7 : tmps.getD 7 undef = .pointer (some ⟨b1, 0, none⟩)) (h8 : tmps.getD 8 undef = .pointer (some ⟨b2, 0, none⟩))
    (g1 : W.heap[b1]? = some (.cells C.toArray 46 (0, 0))) (g2 : W.heap[b2]? = some (.cells D.toArray 46 (0, 0))) (i1 : (Try.prog.info? 46).map (·.size) = some C.length) (i2 : (Try.prog.info? 46).map (·.size) = some D.length) :
    (results Try.f26 tmps).run Try.prog W = .ok (.tuple #[.int .i64 n, .agg C.toArray, .agg D.toArray]) W := by
  have e6 : tmps[6]?.getD undef = .int .i64 n := by simpa using h6
  have e7 : tmps[7]?.getD undef = .pointer (some ⟨b1, 0, none⟩) := by simpa using h7
  have e8 : tmps[8]?.getD undef = .pointer (some ⟨b2, 0, none⟩) := by simpa using h8
  simp [results, Try.results26, asAddr, e6, e7, e8, run_loadVar_row _ _ _ 46 _ _ _ g1 und46 rfl (by simpa using i1), run_loadVar_row _ _ _ 46 _ _ _ g2 und46 rfl (by simpa using i2)]

/-- 'wpAnyH_take' with the slot that is written told as a number. -/
theorem takeD {P : Program} {ops : Array Oper} {Q : Exit → Act → World → Prop} {S : World → Prop} (i d : Nat) {oi : Oper} {v : Value} {fuel : Nat} {listed : Array Bool} {a : Act} {w : World} (hi : ops[i]? = some oi) (hd : oi.dst = some d)
    (hs : Region.noSelect ops = true) (hf : Region.free .any ops listed i = true) (hr : (Region.ready .any ops listed).contains i = true)
    (hQ : ∀ c a w, Q (.panic c) (a.put (some d) v) w → Q (.panic c) a w) (hy : YieldsIf P ops S oi v a) (hS : S w)
    (h : wpAnyH P .any ops Q S fuel (listed.setIfInBounds i true) (a.put (some d) v) w) : wpAnyH P .any ops Q S (fuel + 1) listed a w :=
  wpAnyH_take hi hs hf hr (by rw [hd]; exact hQ) hy hS (by rw [hd]; exact h)

/-- What ZZReadInline hands back: the pieces in order, over what was there. -/
def ZzPost (s : ByteArray) (Z : List (Int × Int)) (w : World) (e : Ending) (w' : World) : Prop :=
  ∃ Q : List (Nat × Nat), Q.Perm (P (am s) s.size s.size) ∧ Out (lt s) (0, 0) Q Q.length ∧ e = .returned (.tuple #[.int .i64 Q.length, .agg (icells ((over Q Z).map (·.1))).toArray, .agg (icells ((over Q Z).map (·.2))).toArray]) ∧ Below w.heap.size w w'

set_option maxHeartbeats 1600000 in
theorem zz_any (s : ByteArray) (Z : List (Int × Int)) (hZ : Z.length = 16) (w : World) (hm : s.size ≤ 1048576) (hP : (P (am s) s.size s.size).length ≤ 16) :
    Calls Try.prog 26 #[.string s, .agg (icells (Z.map (·.1))).toArray, .agg (icells (Z.map (·.2))).toArray] w fun e w' => ZzPost s Z w e w' := by
  obtain ⟨X, hX⟩ : ∃ X, X = (icells (Z.map (·.1))).toArray := ⟨_, rfl⟩
  obtain ⟨Y, hY⟩ : ∃ Y, Y = (icells (Z.map (·.2))).toArray := ⟨_, rfl⟩
  rw [← hX, ← hY]
  have HF : Hid (Filled s Z 0 w _) := filled_start s Z w X Y hX hY
  have HP : Hid ((P (am s) s.size s.size).length ≤ 16) := hP
  clear hX hY hP
  go_enter Try.func26, Try.ntmps26
  go_wp2
  go_loopw [10] (fun i wr => ∃ (k : Nat), i = .int .i64 k ∧ k ≤ 16 ∧ Hid (Filled s Z k w wr)) (fun i _ => 16 - (intOf i).toNat)
  case atStart => exact ⟨0, rfl, by omega, HF⟩
  case round =>
    obtain ⟨k, rfl, hk, hf⟩ := hrel
    clear HF
    by_cases hlt : k < 16
    · have ca := at46_cell hf.out.a k (by simpa [hZ] using hlt)
      have cb := at46_cell hf.out.b k (by simpa [hZ] using hlt)
      have c1 := blk_a hf.out.p k (by rw [front_len Z k hZ hk]; exact hlt)
      have c2 := blk_b hf.out.p k (by rw [front_len Z k hZ hk]; exact hlt)
      have f1 := blk_fr hf.out.p (2 + k * 2)
      have f2 := blk_fr hf.out.p (2 + k * 2 + 1)
      obtain ⟨x, hx⟩ : ∃ x, x = (Z.map (·.1)).getD k 0 := ⟨_, rfl⟩
      obtain ⟨y, hy⟩ : ∃ y, y = (Z.map (·.2)).getD k 0 := ⟨_, rfl⟩
      rw [← hx] at ca
      rw [← hy] at cb
      have Hx : Hid (x = (Z.getD k (0, 0)).1) := by unfold Hid; rw [hx]; simp [show k < Z.length by omega]
      have Hy : Hid (y = (Z.getD k (0, 0)).2) := by unfold Hid; rw [hy]; simp [show k < Z.length by omega]
      clear hx hy
      go_wp2
      go_region
      go_wp2
      go_roundw
      case rel =>
        exact ⟨k + 1, by go_num, by omega, hf.out.next hZ hlt x y Hx.out Hy.out⟩
      case measure => simp [intOf]; omega
    · have hk16 : k = 16 := by omega
      have hat : at74 wr (w.heap.size + 1 + 1 + 1 + 1) s 0 Z := by
        have := hf.out.p; rw [hk16, front_all Z hZ] at this; exact this
      have Hat : Hid (at74 wr (w.heap.size + 1 + 1 + 1 + 1) s 0 Z) := hat
      clear hat hk16
      go_wp2_with (go_at_call 36; refine (read_any s _ Z hZ _ hf.out.size Hat.out hm HP.out).mono ?_; rintro e w1 ⟨rfl, Q, hperm, hout, hat1, hbel⟩; have Hperm : Hid (Q.Perm (P (am s) s.size s.size)) := hperm; have Hout : Hid (Out (lt s) (0, 0) Q Q.length) := hout; have Hat1 : Hid (at74 w1 (w.heap.size + 1 + 1 + 1 + 1) s Q.length (over Q Z)) := hat1; have Hbel : Hid (Below (w.heap.size + 1 + 1 + 1 + 1) wr w1) := hbel; clear hperm hout hat1 hbel)
      have hst := copied_start hf.out Hbel.out Hat1.out
      have HS : Hid (Copied s Q.length (over Q Z) 0 w w1 _) := hst
      obtain ⟨V, hV⟩ : ∃ V, V = over Q Z := ⟨_, rfl⟩
      have hQ16 : Q.length ≤ 16 := by rw [Hperm.out.length_eq]; exact HP.out
      have hVl : V.length = 16 := by rw [hV, over_len _ _ (by omega), hZ]
      rw [← hV] at HS
      have HV : Hid (V = over Q Z) := hV
      clear hst hV Hat1 hf Hat
      go_loopw [13] (fun i wr => ∃ (j : Nat), i = .int .i64 j ∧ j ≤ 16 ∧ Hid (Copied s Q.length V j w w1 wr)) (fun i _ => 16 - (intOf i).toNat)
      case atStart => exact ⟨0, rfl, by omega, HS⟩
      case round =>
        obtain ⟨j, rfl, hj, hc⟩ := hrel
        clear HS
        by_cases hjl : j < 16
        · have ca := blk_a hc.out.p j (by omega)
          have cb := blk_b hc.out.p j (by omega)
          have c1 := at46_cell hc.out.x j (by rw [ffst, List.length_map, front_len V j hVl hj]; exact hjl)
          have c2 := at46_cell hc.out.y j (by rw [fsnd, List.length_map, front_len V j hVl hj]; exact hjl)
          have f1 := at46_fr hc.out.x j
          have f2 := at46_fr hc.out.y j
          have hpast := hc.out.past
          obtain ⟨x, hx⟩ : ∃ x, x = (V.getD j (0, 0)).1 := ⟨_, rfl⟩
          obtain ⟨y, hy⟩ : ∃ y, y = (V.getD j (0, 0)).2 := ⟨_, rfl⟩
          rw [← hx] at ca
          rw [← hy] at cb
          have Hx : Hid (x = (V.getD j (0, 0)).1) := hx
          have Hy : Hid (y = (V.getD j (0, 0)).2) := hy
          clear hx hy
          go_wp2
          go_roundw
          case rel => exact ⟨j + 1, by go_num, by omega, hc.out.next hVl hjl x y Hx.out Hy.out⟩
          case measure => simp [intOf]; omega
        · have hj16 : j = 16 := by omega
          have cn := blk_n hc.out.p
          have hx := hc.out.x
          have hy := hc.out.y
          rw [hj16, ffst, front_all V hVl] at hx
          rw [hj16, fsnd, front_all V hVl] at hy
          have l1 : (icells (V.map (·.1))).length = 16 := by simp [icells, hVl]
          have l2 : (icells (V.map (·.2))).length = 16 := by simp [icells, hVl]
          have r1 := at46_range hx
          have r2 := at46_range hy
          have t1 := at46_there hc.out.c
          have t2 := at46_there hc.out.d
          rw [List.length_replicate] at t1 t2
          have o1 := icells_one (V.map (·.1))
          have o2 := icells_one (V.map (·.2))
          have hb1 := hc.out.c
          have hb2 := hc.out.d
          generalize hC : icells (V.map (·.1)) = C at *
          generalize hD : icells (V.map (·.2)) = D at *
          have i1 : (Try.prog.info? 46).map (·.size) = some C.length := by rw [l1]; exact inf46
          have i2 : (Try.prog.info? 46).map (·.size) = some D.length := by rw [l2]; exact inf46
          have hpast := hc.out.past
          have g1 : ((wr.drew.setCells (w.heap.size + 1 + 1) 0 C).setCells (w.heap.size + 1 + 1 + 1) 0 D).heap[w.heap.size + 1 + 1]? = some (.cells C.toArray 46 (0, 0)) := by
            rw [heap_setCells_other _ _ _ _ _ (by omega)]
            exact heap_setCells_whole _ C wr.drew _ 46 hb1 (by simp [icells, l1])
          have g2 : ((wr.drew.setCells (w.heap.size + 1 + 1) 0 C).setCells (w.heap.size + 1 + 1 + 1) 0 D).heap[w.heap.size + 1 + 1 + 1]? = some (.cells D.toArray 46 (0, 0)) :=
            heap_setCells_whole _ D _ _ 46 (by rw [heap_setCells_other _ _ _ _ _ (by omega)]; exact hb2) (by simp [icells, l2])
          have HC : Hid (icells (V.map (·.1)) = C) := hC
          have HD : Hid (icells (V.map (·.2)) = D) := hD
          clear hC hD hj16 hx hy hb1 hb2
          go_wp2
          refine wp_region_held_drew (S := fun w' => w'.cell? ⟨w.heap.size + 1 + 1 + 1 + 1, 1, none⟩ = some (.int .i64 Q.length) ∧ w'.rangeAt w1.heap.size 0 C ∧ w'.rangeAt (w1.heap.size + 1) 0 D) (by kernel_rfl) ⟨by simpa using cn, r1, r2⟩ (fun hHeld => ?_)
          refine takeD 0 57 (v := .pointer (some ⟨w.heap.size + 1 + 1 + 1 + 1, 0, none⟩)) rfl rfl (by kernel_rfl) (by kernel_rfl) (by kernel_rfl) (fun _ _ _ h => h) (Or.inl ⟨by kernel_rfl, fun _ _ => by kernel_rfl⟩) (by assumption) ?_
          simp only [Act.put, List.setIfInBounds_toArray, List.set_cons_zero, List.set_cons_succ]
          refine takeD 1 58 (v := .pointer (some ⟨w.heap.size + 1 + 1 + 1 + 1, 0, none⟩)) rfl rfl (by kernel_rfl) (by kernel_rfl) (by kernel_rfl) (fun _ _ _ h => h) (Or.inl ⟨by kernel_rfl, fun _ _ => by go_simp⟩) (by assumption) ?_
          simp only [Act.put, List.setIfInBounds_toArray, List.set_cons_zero, List.set_cons_succ]
          refine takeD 2 59 (v := .pointer (some ⟨w.heap.size + 1 + 1 + 1 + 1, 1, none⟩)) rfl rfl (by kernel_rfl) (by kernel_rfl) (by kernel_rfl) (fun _ _ _ h => h) (Or.inl ⟨by kernel_rfl, fun _ _ => by go_simp⟩) (by assumption) ?_
          simp only [Act.put, List.setIfInBounds_toArray, List.set_cons_zero, List.set_cons_succ]
          refine takeD 3 60 (v := .int .i64 Q.length) rfl rfl (by kernel_rfl) (by kernel_rfl) (by kernel_rfl) (fun _ _ _ h => h) (Or.inl ⟨by kernel_rfl, fun _ hw => by have hw1 := hw.1; clear hHeld; go_simp⟩) (by assumption) ?_
          simp only [Act.put, List.setIfInBounds_toArray, List.set_cons_zero, List.set_cons_succ]
          refine takeD 4 61 (v := .agg C.toArray) rfl rfl (by kernel_rfl) (by kernel_rfl) (by kernel_rfl) (fun _ _ _ h => h) (yieldsIf_load_mid (by kernel_rfl) 46 (.tmp 11) rfl w1.heap.size 0 (by kernel_rfl) C _ (fun _ hw => hw.2.1) und46 rfl i1) (by assumption) ?_
          simp only [Act.put, List.setIfInBounds_toArray, List.set_cons_zero, List.set_cons_succ]
          refine takeD 5 62 (v := .agg D.toArray) rfl rfl (by kernel_rfl) (by kernel_rfl) (by kernel_rfl) (fun _ _ _ h => h) (yieldsIf_load_mid (by kernel_rfl) 46 (.tmp 12) rfl (w1.heap.size + 1) 0 (by kernel_rfl) D _ (fun _ hw => hw.2.2) und46 rfl i2) (by assumption) ?_
          simp only [Act.put, List.setIfInBounds_toArray, List.set_cons_zero, List.set_cons_succ]
          refine takeD 6 6 (v := .int .i64 Q.length) rfl rfl (by kernel_rfl) (by kernel_rfl) (by kernel_rfl) (fun _ _ _ h => h) (Or.inl ⟨by kernel_rfl, fun _ _ => by kernel_rfl⟩) (by assumption) ?_
          simp only [Act.put, List.setIfInBounds_toArray, List.set_cons_zero, List.set_cons_succ]
          have S1 : ∀ W : World, (W.cell? ⟨w.heap.size + 1 + 1 + 1 + 1, 1, none⟩ = some (.int .i64 Q.length) ∧ W.rangeAt w1.heap.size 0 C ∧ W.rangeAt (w1.heap.size + 1) 0 D) → ∀ b vs, b < w.heap.size + 1 + 1 + 1 + 1 → ((W.setCells b 0 vs).cell? ⟨w.heap.size + 1 + 1 + 1 + 1, 1, none⟩ = some (.int .i64 Q.length) ∧ (W.setCells b 0 vs).rangeAt w1.heap.size 0 C ∧ (W.setCells b 0 vs).rangeAt (w1.heap.size + 1) 0 D) := fun W h b vs hb =>
            ⟨by rw [World.cell?_setCells_out _ _ _ _ _ (fun e => by simp at e; omega)]; exact h.1, World.rangeAt_setCells_apart h.2.1 _ _ _ (Or.inl (by omega)), World.rangeAt_setCells_apart h.2.2 _ _ _ (Or.inl (by omega))⟩
          have S2 := S1 _ hHeld (w.heap.size + 1 + 1) C (by omega)
          have S3 := S1 _ S2 (w.heap.size + 1 + 1 + 1) D (by omega)
          refine store1 7 _ rfl (by kernel_rfl) (by kernel_rfl) rfl 46 (.tmp 7) _ rfl (w.heap.size + 1 + 1) C (by kernel_rfl) (by kernel_rfl) (by rw [l1]; exact t1) i1 o1 S2 ?_
          refine store1 8 _ rfl (by kernel_rfl) (by kernel_rfl) rfl 46 (.tmp 8) _ rfl (w.heap.size + 1 + 1 + 1) D (by kernel_rfl) (by kernel_rfl) (by rw [l2]; exact World.there_setCells (w := wr.drew) t2 _ _ _) i2 o2 S3 ?_
          refine wpAnyH_done (by kernel_rfl) ?_ _
          clear S1 S2 S3 hHeld
          go_wp2
          refine bodyPost_ret (v := .tuple #[.int .i64 Q.length, .agg C.toArray, .agg D.toArray]) (res26 _ _ (Q.length : Int) (w.heap.size + 1 + 1) (w.heap.size + 1 + 1 + 1) C D (by kernel_rfl) (by kernel_rfl) (by kernel_rfl) g1 g2 i1 i2) rfl ?_
          exact (show ZzPost s Z w _ _ from ⟨Q, Hperm.out, Hout.out, by rw [← HV.out, HC.out, HD.out], below_setCells (below_setCells hc.out.below.drew _ (by omega) _ _) _ (by omega) _ _⟩)
end Go.Proofs.Qxb6603421a.RI
