import Derived.Test.Qxb6603421aRi2
namespace Go.Proofs.Qxb6603421a.RI
open Go.RowKit
set_option linter.unusedVariables false
set_option linter.unusedSimpArgs false

/-! ### A variable that is an array of ints -/
def icells (S : List Int) : List Value := S.map (Value.int .i64)
abbrev at46 (w : World) (g : Nat) (S : List Int) : Prop := w.heap[g]? = some (.cells (icells S).toArray 46 (0, 0))
section
variable {w : World} {g : Nat} {S : List Int}
theorem at46_cell (h : at46 w g S) (k : Nat) (hk : k < S.length) : w.cell? ⟨g, k, none⟩ = some (.int .i64 (S.getD k 0)) := by
  rw [cell_of_row w g k _ 46 (0, 0) h]; simp [icells, hk]
theorem at46_fr (h : at46 w g S) (j : Nat) : w.frozen? ⟨g, j, none⟩ = false := frozen_of_row w g j _ 46 h
theorem at46_set (h : at46 w g S) (k : Nat) (v : Int) : at46 (w.setCell ⟨g, k, none⟩ (.int .i64 v)) g (S.set k v) := by
  unfold at46; rw [heap_setCell_same w g k _ 46 _ h]
  simp [icells, List.map_set]
theorem at46_far (h : at46 w g S) (a : Addr) (v : Value) (hne : g ≠ a.block) : at46 (w.setCell a v) g S := by
  unfold at46; rw [heap_setCell_other w a g v hne]; exact h
theorem at46_range (h : at46 w g S) : w.rangeAt g 0 (icells S) := fun j v hv => by
  rw [Nat.zero_add, cell_of_row w g j _ 46 (0, 0) h]; simpa using hv
theorem at46_there (h : at46 w g S) : w.there g 0 S.length := fun j hj => by
  rw [Nat.zero_add]
  exact ⟨by rw [at46_cell h j hj]; rfl, at46_fr h j⟩
end
/-- A store of what the cell holds turns nothing. -/
theorem setCell_same {w : World} {a : Addr} {v : Value} (h : w.cell? a = some v) : w.setCell a v = w := by
  unfold World.cell? at h
  split at h
  · next c t fr hb =>
    split at h
    · cases h
    · next hsp =>
      have hlt : a.block < w.heap.size := by
        by_cases hx : a.block < w.heap.size
        · exact hx
        · rw [Array.getElem?_eq_none (by omega)] at hb; cases hb
      have e : w.heap.modify a.block (fun | .cells c elem frozen => .cells (if a.spot.isSome then c else c.setIfInBounds a.off v) elem frozen | o => o) = w.heap := by
        apply Array.ext_getElem?
        intro k
        rw [Array.getElem?_modify]
        by_cases hk : a.block = k
        · subst hk
          rw [if_pos rfl, hb]
          simp only [Option.map_some]
          rw [if_neg hsp]
          congr 2
          apply Array.ext_getElem?
          intro m
          rw [Array.getElem?_setIfInBounds]
          by_cases hm : a.off = m
          · subst hm; rw [if_pos rfl]; rw [h]; split
            · rfl
            · next hx => rw [Array.getElem?_eq_none (by omega)] at h; cases h
          · rw [if_neg hm]
        · rw [if_neg hk]
      show ({ w with heap := w.heap.modify a.block _ } : World) = w
      exact congrArg (fun h => ({ w with heap := h } : World)) e
  · cases h
theorem setCells_same (b : Nat) (vs : List Value) (o : Nat) (w : World) (h : ∀ j v, vs[j]? = some v → w.cell? ⟨b, o + j, none⟩ = some v) : w.setCells b o vs = w := by
  induction vs generalizing o with
  | nil => rfl
  | cons v vs ih =>
    rw [World.setCells, setCell_same (by simpa using h 0 v (by simp))]
    exact ih (o + 1) fun j u hu => by have := h (j + 1) u (by simpa using hu); rwa [show o + (j + 1) = o + 1 + j from by omega] at this
theorem put_none (a : Act) (v : Value) : a.put none v = a := rfl
/-- In a region that draws its order: the one operation that may come up stores a whole array. -/
theorem store1 {P : Program} {ops : Array Oper} {Q : Exit → Act → World → Prop} {S : World → Prop} {a : Act} {W : World} {listed : Array Bool} {fuel : Nat} (i : Nat) (oi : Oper)
    (hi : ops[i]? = some oi) (hr : Region.ready .any ops listed = [i]) (wi : Region.wanted oi (yielded ops a.tmps) = true) (di : oi.dst = none)
    (ty : TypeId) (xi yi : Operand) (hoi : oi.op = .store ty xi yi) (b1 : Nat) (C : List Value) (hxi : a.eval xi = .pointer (some ⟨b1, 0, none⟩)) (hyi : a.eval yi = .agg C.toArray)
    (t1 : W.there b1 0 C.length) (i1 : (P.info? ty).map (·.size) = some C.length) (o1 : ∀ v ∈ C, v.oneCell' = true) (s1 : S (W.setCells b1 0 C))
    (h : wpAnyH P .any ops Q S fuel (listed.setIfInBounds i true) a (W.setCells b1 0 C)) : wpAnyH P .any ops Q S (fuel + 1) listed a W := by
  refine wpAnyH_ready (rs := [i]) hr (by simp) (AllReadyH.cons (o := oi) hi (fun K hK => ?_) AllReadyH.nil)
  rw [if_pos wi]
  refine wp_store_mid ty xi yi hoi b1 0 C.toArray hxi hyi (by simpa using t1) (by simpa using i1) (all_oneCell_toArray o1) ?_
  rw [di, put_none]
  exact hK.out _ _ s1 (fun _ => h)
theorem icells_one (S : List Int) : ∀ v ∈ icells S, v.oneCell' = true := by
  intro v hv
  obtain ⟨x, _, rfl⟩ := List.mem_map.mp hv
  rfl
theorem und46 : Try.prog.underlying 46 = some (.array 16 3) := Try.underlying46
theorem inf46 : (Try.prog.info? 46).map (·.size) = some 16 := by kernel_rfl

/-- Numbers laid over the head of a list. -/
def pad (l : List Nat) : List Int := l.map (fun (x : Nat) => (x : Int)) ++ List.replicate (16 - l.length) 0
theorem pad_len (l : List Nat) (h : l.length ≤ 16) : (pad l).length = 16 := by simp [pad]; omega
theorem pad_push (l : List Nat) (x : Nat) (h : l.length < 16) : (pad l).set l.length (x : Int) = pad (l ++ [x]) := by
  unfold pad
  rw [List.set_append_right _ _ (by simp), List.length_map, Nat.sub_self, List.map_append, List.append_assoc]
  congr 1
  rw [show 16 - l.length = (16 - (l ++ [x]).length) + 1 from by simp; omega, List.replicate_succ, List.set_cons_zero]
  rfl

structure Model (ps : List (Nat × Nat)) (w wr : World) : Prop where
  sts : at46 wr w.heap.size (pad (ps.map (·.1)))
  ens : at46 wr (w.heap.size + 1) (pad (ps.map (·.2)))
  below : Below w.heap.size w wr
  size : w.heap.size + 1 < wr.heap.size
theorem Model.push {ps : List (Nat × Nat)} {w wr : World} (h : Model ps w wr) (hl : ps.length < 16) (a b : Nat) :
    Model (ps ++ [(a, b)]) w ((wr.setCell ⟨w.heap.size, ps.length, none⟩ (.int .i64 a)).setCell ⟨w.heap.size + 1, ps.length, none⟩ (.int .i64 b)) := by
  refine ⟨?_, ?_, (h.below.setCell (Nat.le_refl _) _).setCell (by simp) _, by simp [World.setCell]; exact h.size⟩
  · have := at46_far (at46_set h.sts ps.length (a : Int)) ⟨w.heap.size + 1, ps.length, none⟩ (.int .i64 (b : Int)) (by simp)
    have e := pad_push (ps.map (·.1)) a (by simpa using hl)
    rw [List.length_map] at e
    rw [e] at this
    simpa using this
  · have := at46_set (at46_far h.ens ⟨w.heap.size, ps.length, none⟩ (.int .i64 (a : Int)) (by simp)) ps.length (b : Int)
    have e := pad_push (ps.map (·.2)) b (by simpa using hl)
    rw [List.length_map] at e
    rw [e] at this
    simpa using this

theorem pno {s : ByteArray} {k : Nat} {ps : List (Nat × Nat)} (h : ps = P (am s) s.size k) (hs : isSt (am s) k = false) : Hid (ps = P (am s) s.size (k + 1)) := by
  unfold Hid; rw [P_no _ _ _ hs]; exact h
theorem pyes {s : ByteArray} {k : Nat} {ps : List (Nat × Nat)} (h : ps = P (am s) s.size k) (hs : isSt (am s) k = true) (j : Nat) (hj : endAt (am s) (s.size - k) k = j) : Hid (ps ++ [(k, j)] = P (am s) s.size (k + 1)) := by
  unfold Hid; rw [P_yes _ _ _ hs, hj, h]

/-- What modelPieces hands back. -/
def ModelPost (s : ByteArray) (w : World) (e : Ending) (w' : World) : Prop := ∃ (ps : List (Nat × Nat)) (b : Bool), ps.length ≤ 16 ∧ e = .returned (.tuple #[.agg (icells (pad (ps.map (·.1)))).toArray, .agg (icells (pad (ps.map (·.2)))).toArray, .int .i64 ps.length, .bool b]) ∧ (b = true → ps = P (am s) s.size s.size) ∧ Below w.heap.size w w'

set_option maxHeartbeats 800000 in
theorem model_any (s : ByteArray) (w : World) (hm : s.size ≤ 1048576) :
    Calls Try.prog 25 #[.string s] w fun e w' => ModelPost s w e w' := by
  go_enter Try.func25, Try.ntmps25
  go_wp2
  go_loopw [4, 6] (fun n i wr => ∃ (k : Nat) (ps : List (Nat × Nat)), n = .int .i64 ps.length ∧ i = .int .i64 k ∧ k ≤ s.size ∧ ps.length ≤ 16 ∧ Hid (ps = P (am s) s.size k) ∧ Hid (Model ps w wr))
    (fun _ i _ => s.size - (intOf i).toNat)
  case atStart =>
    exact ⟨0, [], rfl, rfl, by omega, by simp, rfl, ⟨heap_alloc2_old w _ _, heap_alloc2_new w _ _, (((Below.refl _ _).alloc (Nat.le_refl _) _).alloc (by simp) _), by simp⟩⟩
  case round =>
    obtain ⟨k, ps, rfl, rfl, hk, hl, hps, hmo⟩ := hrel
    by_cases hlt : k < s.size
    · by_cases ha : am s k = true
      · have hne : ((s[k].toNat : Int) == 38) = true := by
          have := am_of s k hlt; rw [ha] at this; simpa [bne] using this
        have HA : Hid (am s k = true) := ha
        clear ha
        go_wp2
        go_roundw
        case rel => exact ⟨k + 1, ps, by go_num, by go_num, by omega, hl, pno hps.out (by simp [isSt, HA.out]), hmo⟩
        case measure => simp [intOf]; omega
      · have ha' : am s k = false := by simpa using ha
        have hne : ((s[k].toNat : Int) == 38) = false := by
          have := am_of s k hlt; rw [ha'] at this; simpa [bne] using this
        have HA : Hid (am s k = false) := ha'
        clear ha ha'
        by_cases hc : 0 < k ∧ am s (k - 1) = false
        · obtain ⟨h0, hc⟩ := hc
          have hne2 : ((s[k - 1].toNat : Int) != 38) = true := by
            rw [am_of s (k - 1) (by omega), hc]; rfl
          have HC : Hid (am s (k - 1) = false) := hc
          clear hc
          go_wp2
          go_roundw
          case rel => exact ⟨k + 1, ps, by go_num, by go_num, by omega, hl, pno hps.out (by simp [isSt, HA.out, HC.out]; omega), hmo⟩
          case measure => simp [intOf]; omega
        · have hst : Hid (isSt (am s) k = true) := by
            unfold Hid
            rcases Nat.eq_zero_or_pos k with h | h
            · have h0 := HA.out
              rw [h] at h0 ⊢; simp [isSt, h0]
            · have : am s (k - 1) = true := by simpa [h] using hc
              simp [isSt, HA.out, this]
          have hg : (k = 0) ∨ (0 < k ∧ am s (k - 1) = true) := by
            rcases Nat.eq_zero_or_pos k with h | h
            · exact Or.inl h
            · exact Or.inr ⟨h, by simpa [h] using hc⟩
          clear hc
          by_cases h16 : ps.length = 16
          · have hn16 : ((ps.length : Int) == 16) = true := by rw [h16]; rfl
            clear h16
            rcases hg with hk0 | ⟨h0, hc⟩
            · have h0 : ¬ 0 < k := by omega
              clear hk0
              have l1 : (icells (pad (ps.map (·.1)))).length = 16 := by simp [icells, pad_len (ps.map (·.1)) (by simpa using hl)]
              have l2 : (icells (pad (ps.map (·.2)))).length = 16 := by simp [icells, pad_len (ps.map (·.2)) (by simpa using hl)]
              have r1 := at46_range hmo.out.sts
              have r2 := at46_range hmo.out.ens
              have t1 := at46_there hmo.out.sts
              have t2 := at46_there hmo.out.ens
              rw [pad_len _ (by simpa using hl)] at t1 t2
              have o1 := icells_one (pad (ps.map (·.1)))
              have o2 := icells_one (pad (ps.map (·.2)))
              generalize hC : icells (pad (ps.map (·.1))) = C at *
              generalize hD : icells (pad (ps.map (·.2))) = D at *
              have i1 : (Try.prog.info? 46).map (·.size) = some C.length := by rw [l1]; exact inf46
              have i2 : (Try.prog.info? 46).map (·.size) = some D.length := by rw [l2]; exact inf46
              have e1 : wr.drew.setCells w.heap.size 0 C = wr.drew := setCells_same _ _ _ _ r1
              have e2 : wr.drew.setCells (w.heap.size + 1) 0 D = wr.drew := setCells_same _ _ _ _ r2
              have hb1 : wr.drew.heap[w.heap.size]? = some (.cells C.toArray 46 (0, 0)) := by rw [← hC]; exact hmo.out.sts
              have hb2 : wr.drew.heap[w.heap.size + 1]? = some (.cells D.toArray 46 (0, 0)) := by rw [← hD]; exact hmo.out.ens
              have HC : Hid (icells (pad (ps.map (·.1))) = C) := hC
              have HD : Hid (icells (pad (ps.map (·.2))) = D) := hD
              clear hC hD
              go_wp2
              refine wp_region_held_drew (S := fun w' => w' = wr.drew) (by kernel_rfl) rfl (fun hHeld => ?_)
              refine wpAnyH_take (i := 0) (v := .agg C.toArray) rfl (by kernel_rfl) (by kernel_rfl) (by kernel_rfl) (fun _ _ _ h => h) (yieldsIf_load_mid (by rfl) 46 (.tmp 2) rfl w.heap.size 0 rfl C _ (fun _ hw => by rw [hw]; exact r1) und46 rfl i1) rfl ?_
              simp only [Act.put, List.setIfInBounds_toArray, List.set_cons_zero, List.set_cons_succ]
              refine wpAnyH_take (i := 1) (v := .agg D.toArray) rfl (by kernel_rfl) (by kernel_rfl) (by kernel_rfl) (fun _ _ _ h => h) (yieldsIf_load_mid (by rfl) 46 (.tmp 3) rfl (w.heap.size + 1) 0 rfl D _ (fun _ hw => by rw [hw]; exact r2) und46 rfl i2) rfl ?_
              simp only [Act.put, List.setIfInBounds_toArray, List.set_cons_zero, List.set_cons_succ]
              refine wpAnyH_take (i := 2) (v := .int .i64 ps.length) rfl (by kernel_rfl) (by kernel_rfl) (by kernel_rfl) (fun _ _ _ h => h) (Or.inl ⟨by rfl, fun _ _ => rfl⟩) rfl ?_
              simp only [Act.put, List.setIfInBounds_toArray, List.set_cons_zero, List.set_cons_succ]
              refine store1 3 _ rfl (by kernel_rfl) (by rfl) rfl 46 (.tmp 2) _ rfl w.heap.size C rfl rfl (by rw [l1]; exact t1) i1 o1 e1 ?_
              rw [e1]
              refine store1 4 _ rfl (by kernel_rfl) (by rfl) rfl 46 (.tmp 3) _ rfl (w.heap.size + 1) D rfl rfl (by rw [l2]; exact t2) i2 o2 e2 ?_
              rw [e2]
              refine wpAnyH_take (i := 5) (v := .int .i64 ps.length) rfl (by kernel_rfl) (by kernel_rfl) (by kernel_rfl) (fun _ _ _ h => h) (Or.inl ⟨by rfl, fun _ _ => rfl⟩) rfl ?_
              simp only [Act.put, List.setIfInBounds_toArray, List.set_cons_zero, List.set_cons_succ]
              refine wpAnyH_take (i := 6) (v := .bool false) rfl (by kernel_rfl) (by kernel_rfl) (by kernel_rfl) (fun _ _ _ h => h) (Or.inl ⟨by rfl, fun _ _ => rfl⟩) rfl ?_
              simp only [Act.put, List.setIfInBounds_toArray, List.set_cons_zero, List.set_cons_succ]
              refine wpAnyH_done (by kernel_rfl) ?_ _
              go_wp2
              refine bodyPost_ret (v := .tuple #[.agg C.toArray, .agg D.toArray, .int .i64 ps.length, .bool false]) (by simp [results, Try.results25, asAddr, run_loadVar_row _ _ _ 46 _ _ _ hb1 und46 rfl (by simpa using i1), run_loadVar_row _ _ _ 46 _ _ _ hb2 und46 rfl (by simpa using i2)]) rfl ?_
              exact (show ModelPost s w _ _ from ⟨ps, false, hl, by rw [HC.out, HD.out], (fun h => Bool.noConfusion h), hmo.out.below.drew⟩)
            · have hne2 : ((s[k - 1].toNat : Int) != 38) = false := by
                rw [am_of s (k - 1) (by omega), hc]; rfl
              clear hc
              have l1 : (icells (pad (ps.map (·.1)))).length = 16 := by simp [icells, pad_len (ps.map (·.1)) (by simpa using hl)]
              have l2 : (icells (pad (ps.map (·.2)))).length = 16 := by simp [icells, pad_len (ps.map (·.2)) (by simpa using hl)]
              have r1 := at46_range hmo.out.sts
              have r2 := at46_range hmo.out.ens
              have t1 := at46_there hmo.out.sts
              have t2 := at46_there hmo.out.ens
              rw [pad_len _ (by simpa using hl)] at t1 t2
              have o1 := icells_one (pad (ps.map (·.1)))
              have o2 := icells_one (pad (ps.map (·.2)))
              generalize hC : icells (pad (ps.map (·.1))) = C at *
              generalize hD : icells (pad (ps.map (·.2))) = D at *
              have i1 : (Try.prog.info? 46).map (·.size) = some C.length := by rw [l1]; exact inf46
              have i2 : (Try.prog.info? 46).map (·.size) = some D.length := by rw [l2]; exact inf46
              have e1 : wr.drew.setCells w.heap.size 0 C = wr.drew := setCells_same _ _ _ _ r1
              have e2 : wr.drew.setCells (w.heap.size + 1) 0 D = wr.drew := setCells_same _ _ _ _ r2
              have hb1 : wr.drew.heap[w.heap.size]? = some (.cells C.toArray 46 (0, 0)) := by rw [← hC]; exact hmo.out.sts
              have hb2 : wr.drew.heap[w.heap.size + 1]? = some (.cells D.toArray 46 (0, 0)) := by rw [← hD]; exact hmo.out.ens
              have HC : Hid (icells (pad (ps.map (·.1))) = C) := hC
              have HD : Hid (icells (pad (ps.map (·.2))) = D) := hD
              clear hC hD
              go_wp2
              refine wp_region_held_drew (S := fun w' => w' = wr.drew) (by kernel_rfl) rfl (fun hHeld => ?_)
              refine wpAnyH_take (i := 0) (v := .agg C.toArray) rfl (by kernel_rfl) (by kernel_rfl) (by kernel_rfl) (fun _ _ _ h => h) (yieldsIf_load_mid (by rfl) 46 (.tmp 2) rfl w.heap.size 0 rfl C _ (fun _ hw => by rw [hw]; exact r1) und46 rfl i1) rfl ?_
              simp only [Act.put, List.setIfInBounds_toArray, List.set_cons_zero, List.set_cons_succ]
              refine wpAnyH_take (i := 1) (v := .agg D.toArray) rfl (by kernel_rfl) (by kernel_rfl) (by kernel_rfl) (fun _ _ _ h => h) (yieldsIf_load_mid (by rfl) 46 (.tmp 3) rfl (w.heap.size + 1) 0 rfl D _ (fun _ hw => by rw [hw]; exact r2) und46 rfl i2) rfl ?_
              simp only [Act.put, List.setIfInBounds_toArray, List.set_cons_zero, List.set_cons_succ]
              refine wpAnyH_take (i := 2) (v := .int .i64 ps.length) rfl (by kernel_rfl) (by kernel_rfl) (by kernel_rfl) (fun _ _ _ h => h) (Or.inl ⟨by rfl, fun _ _ => rfl⟩) rfl ?_
              simp only [Act.put, List.setIfInBounds_toArray, List.set_cons_zero, List.set_cons_succ]
              refine store1 3 _ rfl (by kernel_rfl) (by rfl) rfl 46 (.tmp 2) _ rfl w.heap.size C rfl rfl (by rw [l1]; exact t1) i1 o1 e1 ?_
              rw [e1]
              refine store1 4 _ rfl (by kernel_rfl) (by rfl) rfl 46 (.tmp 3) _ rfl (w.heap.size + 1) D rfl rfl (by rw [l2]; exact t2) i2 o2 e2 ?_
              rw [e2]
              refine wpAnyH_take (i := 5) (v := .int .i64 ps.length) rfl (by kernel_rfl) (by kernel_rfl) (by kernel_rfl) (fun _ _ _ h => h) (Or.inl ⟨by rfl, fun _ _ => rfl⟩) rfl ?_
              simp only [Act.put, List.setIfInBounds_toArray, List.set_cons_zero, List.set_cons_succ]
              refine wpAnyH_take (i := 6) (v := .bool false) rfl (by kernel_rfl) (by kernel_rfl) (by kernel_rfl) (fun _ _ _ h => h) (Or.inl ⟨by rfl, fun _ _ => rfl⟩) rfl ?_
              simp only [Act.put, List.setIfInBounds_toArray, List.set_cons_zero, List.set_cons_succ]
              refine wpAnyH_done (by kernel_rfl) ?_ _
              go_wp2
              refine bodyPost_ret (v := .tuple #[.agg C.toArray, .agg D.toArray, .int .i64 ps.length, .bool false]) (by simp [results, Try.results25, asAddr, run_loadVar_row _ _ _ 46 _ _ _ hb1 und46 rfl (by simpa using i1), run_loadVar_row _ _ _ 46 _ _ _ hb2 und46 rfl (by simpa using i2)]) rfl ?_
              exact (show ModelPost s w _ _ from ⟨ps, false, hl, by rw [HC.out, HD.out], (fun h => Bool.noConfusion h), hmo.out.below.drew⟩)
          · have hl16 : ps.length < 16 := by omega
            have hn16 : ((ps.length : Int) == 16) = false := by
              simp only [beq_eq_false_iff_ne]; omega
            clear h16
            rcases hg with hk0 | ⟨h0, hc⟩
            · have h0 : ¬ 0 < k := by omega
              clear hk0
              go_wp2
              go_loop [7] (fun jj => ∃ j : Nat, jj = .int .i64 j ∧ k ≤ j ∧ j ≤ s.size ∧ Hid (∀ t, k ≤ t → t < j → am s t = false)) (fun jj => s.size - (intOf jj).toNat)
              case atStart => exact ⟨k, rfl, Nat.le_refl _, by omega, fun t a b => by omega⟩
              case round =>
                obtain ⟨j, rfl, hkj, hjs, hno⟩ := hrel
                by_cases hjl : j < s.size ∧ am s j = false
                · obtain ⟨hjl, haj⟩ := hjl
                  have hnj : ((s[j].toNat : Int) != 38) = true := by rw [am_of s j hjl, haj]; rfl
                  have HJ : Hid (am s j = false) := haj
                  clear haj
                  go_wp2
                  go_round
                  case rel => exact ⟨j + 1, by go_num, by omega, by omega, fun t a b => if e : t = j then by rw [e]; exact HJ.out else hno.out t a (by omega)⟩
                  case measure => simp [intOf]; omega
                · have he : Hid (endAt (am s) (s.size - k) k = j) := endAt_eq _ _ _ _ hkj (by omega) hno.out (by
                    by_cases hx : j < s.size
                    · right; simpa [hx] using hjl
                    · left; omega)
                  have c1 := at46_cell hmo.out.sts ps.length (by rw [pad_len _ (by simpa using hl)]; omega)
                  have c2 := at46_cell hmo.out.ens ps.length (by rw [pad_len _ (by simpa using hl)]; omega)
                  have f1 := at46_fr hmo.out.sts ps.length
                  have f2 := at46_fr hmo.out.ens ps.length
                  by_cases hx : j < s.size
                  · have hnj : ((s[j].toNat : Int) != 38) = false := by
                      rw [am_of s j hx]
                      have : am s j = true := by simpa [hx] using hjl
                      rw [this]; rfl
                    clear hjl
                    go_wp2
                    go_roundw
                    case rel => exact ⟨k + 1, ps ++ [(k, j)], by simp, by go_num, by omega, by simp; omega, pyes hps.out hst.out j he.out, hmo.out.push hl16 k j⟩
                    case measure => simp [intOf]; omega
                  · clear hjl
                    go_wp2
                    go_roundw
                    case rel => exact ⟨k + 1, ps ++ [(k, j)], by simp, by go_num, by omega, by simp; omega, pyes hps.out hst.out j he.out, hmo.out.push hl16 k j⟩
                    case measure => simp [intOf]; omega
            · have hne2 : ((s[k - 1].toNat : Int) != 38) = false := by
                rw [am_of s (k - 1) (by omega), hc]; rfl
              clear hc
              go_wp2
              go_loop [7] (fun jj => ∃ j : Nat, jj = .int .i64 j ∧ k ≤ j ∧ j ≤ s.size ∧ Hid (∀ t, k ≤ t → t < j → am s t = false)) (fun jj => s.size - (intOf jj).toNat)
              case atStart => exact ⟨k, rfl, Nat.le_refl _, by omega, fun t a b => by omega⟩
              case round =>
                obtain ⟨j, rfl, hkj, hjs, hno⟩ := hrel
                by_cases hjl : j < s.size ∧ am s j = false
                · obtain ⟨hjl, haj⟩ := hjl
                  have hnj : ((s[j].toNat : Int) != 38) = true := by rw [am_of s j hjl, haj]; rfl
                  have HJ : Hid (am s j = false) := haj
                  clear haj
                  go_wp2
                  go_round
                  case rel => exact ⟨j + 1, by go_num, by omega, by omega, fun t a b => if e : t = j then by rw [e]; exact HJ.out else hno.out t a (by omega)⟩
                  case measure => simp [intOf]; omega
                · have he : Hid (endAt (am s) (s.size - k) k = j) := endAt_eq _ _ _ _ hkj (by omega) hno.out (by
                    by_cases hx : j < s.size
                    · right; simpa [hx] using hjl
                    · left; omega)
                  have c1 := at46_cell hmo.out.sts ps.length (by rw [pad_len _ (by simpa using hl)]; omega)
                  have c2 := at46_cell hmo.out.ens ps.length (by rw [pad_len _ (by simpa using hl)]; omega)
                  have f1 := at46_fr hmo.out.sts ps.length
                  have f2 := at46_fr hmo.out.ens ps.length
                  by_cases hx : j < s.size
                  · have hnj : ((s[j].toNat : Int) != 38) = false := by
                      rw [am_of s j hx]
                      have : am s j = true := by simpa [hx] using hjl
                      rw [this]; rfl
                    clear hjl
                    go_wp2
                    go_roundw
                    case rel => exact ⟨k + 1, ps ++ [(k, j)], by simp, by go_num, by omega, by simp; omega, pyes hps.out hst.out j he.out, hmo.out.push hl16 k j⟩
                    case measure => simp [intOf]; omega
                  · clear hjl
                    go_wp2
                    go_roundw
                    case rel => exact ⟨k + 1, ps ++ [(k, j)], by simp, by go_num, by omega, by simp; omega, pyes hps.out hst.out j he.out, hmo.out.push hl16 k j⟩
                    case measure => simp [intOf]; omega
    · have l1 : (icells (pad (ps.map (·.1)))).length = 16 := by simp [icells, pad_len (ps.map (·.1)) (by simpa using hl)]
      have l2 : (icells (pad (ps.map (·.2)))).length = 16 := by simp [icells, pad_len (ps.map (·.2)) (by simpa using hl)]
      have r1 := at46_range hmo.out.sts
      have r2 := at46_range hmo.out.ens
      have t1 := at46_there hmo.out.sts
      have t2 := at46_there hmo.out.ens
      rw [pad_len _ (by simpa using hl)] at t1 t2
      have o1 := icells_one (pad (ps.map (·.1)))
      have o2 := icells_one (pad (ps.map (·.2)))
      generalize hC : icells (pad (ps.map (·.1))) = C at *
      generalize hD : icells (pad (ps.map (·.2))) = D at *
      have i1 : (Try.prog.info? 46).map (·.size) = some C.length := by rw [l1]; exact inf46
      have i2 : (Try.prog.info? 46).map (·.size) = some D.length := by rw [l2]; exact inf46
      have e1 : wr.drew.setCells w.heap.size 0 C = wr.drew := setCells_same _ _ _ _ r1
      have e2 : wr.drew.setCells (w.heap.size + 1) 0 D = wr.drew := setCells_same _ _ _ _ r2
      have hb1 : wr.drew.heap[w.heap.size]? = some (.cells C.toArray 46 (0, 0)) := by rw [← hC]; exact hmo.out.sts
      have hb2 : wr.drew.heap[w.heap.size + 1]? = some (.cells D.toArray 46 (0, 0)) := by rw [← hD]; exact hmo.out.ens
      have HC : Hid (icells (pad (ps.map (·.1))) = C) := hC
      have HD : Hid (icells (pad (ps.map (·.2))) = D) := hD
      clear hC hD
      go_wp2
      refine wp_region_held_drew (S := fun w' => w' = wr.drew) (by kernel_rfl) rfl (fun hHeld => ?_)
      refine wpAnyH_take (i := 0) (v := .agg C.toArray) rfl (by kernel_rfl) (by kernel_rfl) (by kernel_rfl) (fun _ _ _ h => h) (yieldsIf_load_mid (by rfl) 46 (.tmp 2) rfl w.heap.size 0 rfl C _ (fun _ hw => by rw [hw]; exact r1) und46 rfl i1) rfl ?_
      simp only [Act.put, List.setIfInBounds_toArray, List.set_cons_zero, List.set_cons_succ]
      refine wpAnyH_take (i := 1) (v := .agg D.toArray) rfl (by kernel_rfl) (by kernel_rfl) (by kernel_rfl) (fun _ _ _ h => h) (yieldsIf_load_mid (by rfl) 46 (.tmp 3) rfl (w.heap.size + 1) 0 rfl D _ (fun _ hw => by rw [hw]; exact r2) und46 rfl i2) rfl ?_
      simp only [Act.put, List.setIfInBounds_toArray, List.set_cons_zero, List.set_cons_succ]
      refine wpAnyH_take (i := 2) (v := .int .i64 ps.length) rfl (by kernel_rfl) (by kernel_rfl) (by kernel_rfl) (fun _ _ _ h => h) (Or.inl ⟨by rfl, fun _ _ => rfl⟩) rfl ?_
      simp only [Act.put, List.setIfInBounds_toArray, List.set_cons_zero, List.set_cons_succ]
      refine store1 3 _ rfl (by kernel_rfl) (by rfl) rfl 46 (.tmp 2) _ rfl w.heap.size C rfl rfl (by rw [l1]; exact t1) i1 o1 e1 ?_
      rw [e1]
      refine store1 4 _ rfl (by kernel_rfl) (by rfl) rfl 46 (.tmp 3) _ rfl (w.heap.size + 1) D rfl rfl (by rw [l2]; exact t2) i2 o2 e2 ?_
      rw [e2]
      refine wpAnyH_take (i := 5) (v := .int .i64 ps.length) rfl (by kernel_rfl) (by kernel_rfl) (by kernel_rfl) (fun _ _ _ h => h) (Or.inl ⟨by rfl, fun _ _ => rfl⟩) rfl ?_
      simp only [Act.put, List.setIfInBounds_toArray, List.set_cons_zero, List.set_cons_succ]
      refine wpAnyH_take (i := 6) (v := .bool true) rfl (by kernel_rfl) (by kernel_rfl) (by kernel_rfl) (fun _ _ _ h => h) (Or.inl ⟨by rfl, fun _ _ => rfl⟩) rfl ?_
      simp only [Act.put, List.setIfInBounds_toArray, List.set_cons_zero, List.set_cons_succ]
      refine wpAnyH_done (by kernel_rfl) ?_ _
      go_wp2
      refine bodyPost_ret (v := .tuple #[.agg C.toArray, .agg D.toArray, .int .i64 ps.length, .bool true]) (by simp [results, Try.results25, asAddr, run_loadVar_row _ _ _ 46 _ _ _ hb1 und46 rfl (by simpa using i1), run_loadVar_row _ _ _ 46 _ _ _ hb2 und46 rfl (by simpa using i2)]) rfl ?_
      exact (show ModelPost s w _ _ from ⟨ps, true, hl, by rw [HC.out, HD.out], fun _ => by rw [hps.out, show k = s.size from by omega], hmo.out.below.drew⟩)
end Go.Proofs.Qxb6603421a.RI
