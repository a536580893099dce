import Derived.Test.Qxb6603421aCh2
namespace Go.Proofs.Qxb6603421a.WW
open Go.RowKit
set_option linter.unusedVariables false

/-! ### putUTF16 -/
def ncs (L : List Nat) : List Value := L.map fun (b : Nat) => .int .i64 (b : Int)
abbrev at38 (w : World) (g : Nat) (t : TypeId) (L : List Nat) : Prop := w.heap[g]? = some (.cells (ncs L).toArray t (0, 0))
theorem at38_cell {w : World} {g : Nat} {t : TypeId} {L : List Nat} (h : at38 w g t L) (k : Nat) (hk : k < L.length) : w.cell? ⟨g, k, none⟩ = some (.int .i64 (L.getD k 0 : Nat)) := by
  rw [cell_of_row w g k _ t (0, 0) h]; simp [ncs, hk]
theorem at38_fr {w : World} {g : Nat} {t : TypeId} {L : List Nat} (h : at38 w g t L) (j : Nat) : w.frozen? ⟨g, j, none⟩ = false := frozen_of_row w g j _ t h
theorem at38_set {w : World} {g : Nat} {t : TypeId} {L : List Nat} (h : at38 w g t L) (k : Nat) (v : Int) (b : Nat) (hv : v = b) : at38 (w.setCell ⟨g, k, none⟩ (.int .i64 v)) g t (L.set k b) := by
  subst hv
  unfold at38; rw [heap_setCell_same w g k _ t _ h]
  simp [ncs, List.map_set]

set_option maxHeartbeats 400000 in
theorem put16_1 (B : Nat) (L : List Nat) (k r : Nat) (w : World) (hb : at38 w B 38 L) (hL : L.length = 4) (hr : r < 65536) (hk : k + 1 ≤ 4) :
    Calls Try.prog 21 #[.pointer (some ⟨B, 0, none⟩), .int .i64 k, .int .i32 r] w fun e w' => e = .returned (.int .i64 (k + 1 : Nat)) ∧ at38 w' B 38 (put L k (enc16 r)) ∧ Below B w w' ∧ w'.heap.size = w.heap.size ∧ (∀ j, j ≠ B → w'.heap[j]? = w.heap[j]?) := by
  have he : enc16 r = [r] := by unfold enc16; rw [if_pos hr]
  have c0 := at38_cell hb k (by omega)
  have f0 := at38_fr hb k
  generalize ((L.getD k 0 : Nat) : Int) = v0 at c0
  have HB : Hid _ := hb
  have HE : Hid _ := he
  obtain ⟨z, hz⟩ : ∃ z : Int, z = (r : Int) := ⟨_, rfl⟩
  rw [← hz]
  have hi : (0 : Int) ≤ z := by omega
  have hi2 : z < 65536 := by omega
  have HZ : Hid (z = (r : Int)) := hz
  have k0 : (k : Int) < 4 := by omega
  clear hz hb hL he hr
  go_enter Try.func21, Try.ntmps21
  go_wp2
  go_ret
  refine ⟨ret_int (by simp), ?_, ?_, by simp [World.setCell], fun j hj => heap_setCell_other _ _ _ _ (by simpa using hj)⟩
  rotate_left
  · exact (Below.refl B w).setCell (by simp) _
  rw [HE.out]
  exact at38_set HB.out k _ r (by have := HZ.out; omega)
theorem and1023 (n : Int) (h0 : 0 ≤ n) (h1 : n ≤ 1048575) : bits .and .i64 n 1023 = n % 1024 := by
  obtain ⟨m, rfl⟩ := Int.eq_ofNat_of_zero_le h0
  have a1 : (BitVec.ofInt 64 (m : Int)).toNat = m := by
    rw [BitVec.ofInt_natCast, BitVec.toNat_ofNat]; exact Nat.mod_eq_of_lt (by omega)
  have a2 : (BitVec.ofInt 64 1023).toNat = 1023 := by decide
  show IntKind.i64.wrap ((BitVec.ofInt 64 (m : Int) &&& BitVec.ofInt 64 1023).toNat : Int) = _
  rw [BitVec.toNat_and, a1, a2, show (1023 : Nat) = 2 ^ 10 - 1 from rfl, Nat.and_two_pow_sub_one_eq_mod, IntKind.wrap_i64]
  omega

set_option maxHeartbeats 400000 in
theorem put16_2 (B : Nat) (L : List Nat) (k r : Nat) (w : World) (hb : at38 w B 38 L) (hL : L.length = 4) (hr : ¬ r < 65536) (hr2 : r ≤ 1114111) (hk : k + 2 ≤ 4) :
    Calls Try.prog 21 #[.pointer (some ⟨B, 0, none⟩), .int .i64 k, .int .i32 r] w fun e w' => e = .returned (.int .i64 (k + 2 : Nat)) ∧ at38 w' B 38 (put L k (enc16 r)) ∧ Below B w w' ∧ w'.heap.size = w.heap.size ∧ (∀ j, j ≠ B → w'.heap[j]? = w.heap[j]?) := by
  have he : enc16 r = [55296 + (r - 65536) / 1024, 56320 + (r - 65536) % 1024] := by unfold enc16; rw [if_neg hr]
  have c0 := at38_cell hb k (by omega)
  have f0 := at38_fr hb k
  have c1 := at38_cell hb (k + 1) (by omega)
  have f1 := at38_fr hb (k + 1)
  generalize ((L.getD k 0 : Nat) : Int) = v0 at c0
  generalize ((L.getD (k + 1) 0 : Nat) : Int) = v1 at c1
  have HB : Hid _ := hb
  have HE : Hid _ := he
  obtain ⟨z, hz⟩ : ∃ z : Int, z = (r : Int) := ⟨_, rfl⟩
  rw [← hz]
  have hi : (65536 : Int) ≤ z := by omega
  have hi2 : z ≤ 1114111 := by omega
  have HZ : Hid (z = (r : Int)) := hz
  have HR : Hid _ := hr
  have ha := and1023 (z - 65536) (by omega) (by omega)
  have k0 : (k : Int) < 4 := by omega
  have k1 : (k : Int) + 1 < 4 := by omega
  clear hz hb hL he hr hr2
  go_enter Try.func21, Try.ntmps21
  go_wp2
  go_ret
  refine ⟨ret_int (by simp), ?_, ?_, by simp [World.setCell], fun j hj => by rw [heap_setCell_other _ _ _ _ (by simpa using hj), heap_setCell_other _ _ _ _ (by simpa using hj)]⟩
  rotate_left
  · exact ((Below.refl B w).setCell (by simp) _).setCell (by simp) _
  rw [HE.out]
  exact at38_set (at38_set HB.out k _ _ (by have := HZ.out; have := HR.out; omega)) (k + 1) _ _ (by have := HZ.out; have := HR.out; omega)

/-! ### cmpU64 -/
theorem cmpU_any (x y : Nat) (w : World) : Calls Try.prog 23 #[.int .u64 x, .int .u64 y] w fun e w' => e = .returned (.int .i64 (cmp3 x y)) ∧ w' = w := by
  by_cases h : x < y
  · have e : cmp3 x y = -1 := by unfold cmp3; rw [if_pos h]
    have h2 : (x : Int) < (y : Int) := by omega
    rw [e]; clear e
    go_enter Try.func23, Try.ntmps23
    go_wp2
    go_ret
    exact ⟨rfl, rfl⟩
  · by_cases h2 : y < x
    · have e : cmp3 x y = 1 := by unfold cmp3; rw [if_neg h, if_pos h2]
      rw [e]; clear e
      go_enter Try.func23, Try.ntmps23
      go_wp2
      go_ret
      exact ⟨rfl, rfl⟩
    · have e : cmp3 x y = 0 := by unfold cmp3; rw [if_neg h, if_neg h2]
      rw [e]; clear e
      go_enter Try.func23, Try.ntmps23
      go_wp2
      go_ret
      exact ⟨rfl, rfl⟩

def len16 (r : Nat) : Nat := (enc16 r).length
theorem len16_bd (r : Nat) : 1 ≤ len16 r ∧ len16 r ≤ 2 := by unfold len16 enc16; split <;> simp
theorem put16_any (B : Nat) (L : List Nat) (k r : Nat) (w : World) (hb : at38 w B 38 L) (hL : L.length = 4) (hr : Scalar r) (hk : k + len16 r ≤ 4) :
    Calls Try.prog 21 #[.pointer (some ⟨B, 0, none⟩), .int .i64 k, .int .i32 r] w fun e w' => e = .returned (.int .i64 (k + len16 r : Nat)) ∧ at38 w' B 38 (put L k (enc16 r)) ∧ Below B w w' ∧ w'.heap.size = w.heap.size ∧ (∀ j, j ≠ B → w'.heap[j]? = w.heap[j]?) := by
  by_cases h : r < 65536
  · have e : len16 r = 1 := by unfold len16 enc16; rw [if_pos h]; rfl
    rw [e] at hk ⊢; exact put16_1 B L k r w hb hL h hk
  · have e : len16 r = 2 := by unfold len16 enc16; rw [if_neg h]; rfl
    rw [e] at hk ⊢; exact put16_2 B L k r w hb hL h hr.1 hk

/-! ### cmpInts -/
theorem cmpL_drop (x y : List Nat) (k : Nat) (hx : k < x.length) (hy : k < y.length) :
    cmpL (x.drop k) (y.drop k) = if x.getD k 0 < y.getD k 0 then -1 else if y.getD k 0 < x.getD k 0 then 1 else cmpL (x.drop (k + 1)) (y.drop (k + 1)) := by
  rw [List.drop_eq_getElem_cons hx, List.drop_eq_getElem_cons hy, cmpL]
  simp [hx, hy]
theorem cmpL_end (x y : List Nat) (k : Nat) (h : ¬ (k < x.length ∧ k < y.length)) (hx : k ≤ x.length) (hy : k ≤ y.length) :
    cmpL (x.drop k) (y.drop k) = if x.length < y.length then -1 else if y.length < x.length then 1 else 0 := by
  by_cases a : k < x.length
  · have e : k = y.length := by omega
    rw [List.drop_eq_getElem_cons a, List.drop_eq_nil_of_le (show y.length ≤ k by omega), cmpL, if_neg (by omega), if_pos (by omega)]
  · by_cases b : k < y.length
    · rw [List.drop_eq_nil_of_le (show x.length ≤ k by omega), List.drop_eq_getElem_cons b, cmpL, if_pos (by omega)]
    · rw [List.drop_eq_nil_of_le (show x.length ≤ k by omega), List.drop_eq_nil_of_le (show y.length ≤ k by omega), cmpL, if_neg (by omega), if_neg (by omega)]

set_option maxHeartbeats 800000 in
theorem cmpI_any (A B : Nat) (x y : List Nat) (ca cb : Nat) (w : World) (hxa : x.length ≤ ca) (hyb : y.length ≤ cb) (hx4 : x.length ≤ 4) (hy4 : y.length ≤ 4)
    (hx : ∀ i, i < x.length → w.cell? ⟨A, i, none⟩ = some (.int .i64 (x.getD i 0 : Nat))) (hy : ∀ i, i < y.length → w.cell? ⟨B, i, none⟩ = some (.int .i64 (y.getD i 0 : Nat))) :
    Calls Try.prog 22 #[.slice (some ⟨A, 0, none⟩) x.length ca, .slice (some ⟨B, 0, none⟩) y.length cb] w fun e w' => e = .returned (.int .i64 (cmpL x y)) ∧ ∃ n, w' = w.drewN n := by
  obtain ⟨R, hR⟩ : ∃ R, R = cmpL x y := ⟨_, rfl⟩
  rw [← hR]
  have HR : Hid _ := hR
  have HX : Hid _ := hx
  have HY : Hid _ := hy
  clear hR hx hy
  go_enter Try.func22, Try.ntmps22
  go_wp2
  go_loopw [5] (fun i wr => ∃ k n : Nat, i = .int .i64 k ∧ k ≤ x.length ∧ k ≤ y.length ∧ wr = w.drewN n ∧ Hid (R = cmpL (x.drop k) (y.drop k))) (fun i _ => 4 - (intOf i).toNat)
  case atStart => exact ⟨0, 0, rfl, Nat.zero_le _, Nat.zero_le _, rfl, by unfold Hid; rw [HR.out]; simp⟩
  case round =>
    obtain ⟨k, n, rfl, hkx, hky, rfl, hc⟩ := hrel
    by_cases hlt : k < x.length ∧ k < y.length
    · obtain ⟨h1, h2⟩ := hlt
      have c1 := HX.out k h1
      have c2 := HY.out k h2
      have hd := cmpL_drop x y k h1 h2
      obtain ⟨u, hu⟩ : ∃ u, u = x.getD k 0 := ⟨_, rfl⟩
      obtain ⟨v, hv⟩ : ∃ v, v = y.getD k 0 := ⟨_, rfl⟩
      rw [← hu] at c1 hd
      rw [← hv] at c2 hd
      have HD : Hid _ := hd
      have i1 : (k : Int) < (x.length : Int) := by omega
      have i2 : (k : Int) < (y.length : Int) := by omega
      clear hu hv hd
      by_cases huv : u < v
      · have hr : R = -1 := by rw [hc.out, HD.out, if_pos huv]
        subst hr
        go_wp2
        go_quiet (fail)
        go_wp2
        go_ret
        exact ⟨rfl, n + nq, by simp⟩
      · by_cases hvu : v < u
        · have hr : R = 1 := by rw [hc.out, HD.out, if_neg huv, if_pos hvu]
          subst hr
          go_wp2
          go_quiet (fail)
          go_wp2
          go_quiet (fail)
          go_wp2
          go_ret
          exact ⟨rfl, by simp only [World.drewN_drewN]; exact ⟨_, rfl⟩⟩
        · have hr : R = cmpL (x.drop (k + 1)) (y.drop (k + 1)) := by rw [hc.out, HD.out, if_neg huv, if_neg hvu]
          have Hr : Hid _ := hr
          clear hr
          go_wp2
          go_quiet (fail)
          go_wp2
          go_quiet (fail)
          go_wp2
          go_roundw
          case rel => exact ⟨k + 1, _, by go_num, by omega, by omega, rfl, Hr⟩
          case measure => simp [intOf]; omega
    · have he := cmpL_end x y k hlt hkx hky
      have hr : R = if x.length < y.length then -1 else if y.length < x.length then 1 else 0 := by rw [hc.out, he]
      clear he hc
      by_cases hxy : x.length < y.length
      · rw [if_pos hxy] at hr
        subst hr
        have e1 : ¬ k < x.length := by omega
        clear hlt
        go_wp2
        go_ret
        exact ⟨rfl, _, rfl⟩
      · by_cases hyx : y.length < x.length
        · rw [if_neg hxy, if_pos hyx] at hr
          subst hr
          have e1 : k < x.length := by omega
          have e2 : ¬ k < y.length := by omega
          clear hlt
          go_wp2
          go_ret
          exact ⟨rfl, _, rfl⟩
        · rw [if_neg hxy, if_neg hyx] at hr
          subst hr
          have e1 : ¬ k < x.length := by omega
          clear hlt
          go_wp2
          go_ret
          exact ⟨rfl, _, rfl⟩
end Go.Proofs.Qxb6603421a.WW
