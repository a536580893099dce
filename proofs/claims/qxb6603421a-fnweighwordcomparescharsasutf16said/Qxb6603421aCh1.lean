import Derived.Test.Qxb6603421aWw
import Derived.Test.Qxb6603421aChars
import Derived.WalkSpells
import Derived.Deep.QuietTactic
import Derived.BigQuiet
import Derived.Deep.DeepCutAuto
namespace Go.Proofs.Qxb6603421a.WW
open Go.RowKit
set_option linter.unusedVariables false

/-! ### isScalar -/
theorem scalar_yes (r : Nat) (w : World) (h : Scalar r) : Calls Try.prog 19 #[.int .i32 r] w fun e w' => e = .returned (.bool true) ∧ w' = w := by
  obtain ⟨h1, h2⟩ := h
  rcases h2 with h2 | h2
  · go_enter Try.func19, Try.ntmps19
    go_wp2
    go_ret
    exact ⟨rfl, rfl⟩
  · have hd : decide ((r : Int) ≤ 57343) = false := by simp; omega
    go_enter Try.func19, Try.ntmps19
    go_wp2
    go_ret
    exact ⟨rfl, rfl⟩
theorem scalar_no (r : Int) (w : World) (h : ¬ (0 ≤ r ∧ Scalar r.toNat)) : Calls Try.prog 19 #[.int .i32 r] w fun e w' => e = .returned (.bool false) ∧ w' = w := by
  by_cases h0 : 0 ≤ r
  · by_cases h1 : r ≤ 1114111
    · have h2 : 55296 ≤ r := by
        by_cases c : 55296 ≤ r
        · exact c
        · exact absurd ⟨h0, by unfold Scalar; omega⟩ h
      have h3 : r ≤ 57343 := by
        by_cases c : r ≤ 57343
        · exact c
        · exact absurd ⟨h0, by unfold Scalar; omega⟩ h
      clear h
      go_enter Try.func19, Try.ntmps19
      go_wp2
      go_ret
      exact ⟨rfl, rfl⟩
    · clear h
      go_enter Try.func19, Try.ntmps19
      go_wp2
      go_ret
      exact ⟨rfl, rfl⟩
  · clear h
    go_enter Try.func19, Try.ntmps19
    go_wp2
    go_ret
    exact ⟨rfl, rfl⟩

/-! ### putUTF8 -/
def bcs (L : List Nat) : List Value := L.map fun (b : Nat) => .int .u8 (b : Int)
abbrev at65 (w : World) (g : Nat) (L : List Nat) : Prop := w.heap[g]? = some (.cells (bcs L).toArray 65 (0, 0))
theorem at65_cell {w : World} {g : Nat} {L : List Nat} (h : at65 w g L) (k : Nat) (hk : k < L.length) : w.cell? ⟨g, k, none⟩ = some (.int .u8 (L.getD k 0 : Nat)) := by
  rw [cell_of_row w g k _ 65 (0, 0) h]; simp [bcs, hk]
theorem at65_fr {w : World} {g : Nat} {L : List Nat} (h : at65 w g L) (j : Nat) : w.frozen? ⟨g, j, none⟩ = false := frozen_of_row w g j _ 65 h
theorem at65_set {w : World} {g : Nat} {L : List Nat} (h : at65 w g L) (k : Nat) (v : Int) (b : Nat) (hv : v = b) : at65 (w.setCell ⟨g, k, none⟩ (.int .u8 v)) g (L.set k b) := by
  subst hv
  unfold at65; rw [heap_setCell_same w g k _ 65 _ h]
  simp [bcs, List.map_set]
def put : List Nat → Nat → List Nat → List Nat
  | L, _, [] => L
  | L, k, b :: bs => put (L.set k b) (k + 1) bs

set_option maxRecDepth 100000 in
set_option maxHeartbeats 400000 in
theorem put8_1 (B : Nat) (L : List Nat) (k r : Nat) (w : World) (hb : at65 w B L) (hL : L.length = 8) (hr : r < 128) (hk : k + 1 ≤ 8) :
    Calls Try.prog 35 #[.pointer (some ⟨B, 0, none⟩), .int .i64 k, .int .i32 r] w fun e w' => e = .returned (.int .i64 (k + 1 : Nat)) ∧ at65 w' B (put L k (enc8 r)) ∧ Below B w w' ∧ w'.heap.size = w.heap.size := by
  have he : enc8 r = [r] := by unfold enc8; rw [if_pos hr]
  have c0 := at65_cell hb k (by omega)
  have f0 := at65_fr hb k
  generalize ((L.getD k 0 : Nat) : Int) = v0 at c0
  have HB : Hid _ := hb
  have HE : Hid _ := he
  obtain ⟨z, hz⟩ : ∃ z : Int, z = (r : Int) := ⟨_, rfl⟩
  rw [← hz]
  have hi : (0 : Int) ≤ z := by omega
  have hi2 : z < 128 := by omega
  have HZ : Hid (z = (r : Int)) := hz
  have k0 : (k : Int) < 8 := by omega
  clear hz hb hL he hr
  go_enter Try.func35, Try.ntmps35
  go_wp2
  go_ret
  refine ⟨ret_int (by simp), ?_, ?_, by simp [World.setCell]⟩
  rotate_left
  · exact (Below.refl B w).setCell (by simp) _
  rw [HE.out]
  exact at65_set HB.out k _ (r) (by have := HZ.out; omega)
set_option maxRecDepth 100000 in
set_option maxHeartbeats 400000 in
theorem put8_2 (B : Nat) (L : List Nat) (k r : Nat) (w : World) (hb : at65 w B L) (hL : L.length = 8) (hr : ¬ r < 128) (hr2 : r < 2048) (hk : k + 2 ≤ 8) :
    Calls Try.prog 35 #[.pointer (some ⟨B, 0, none⟩), .int .i64 k, .int .i32 r] w fun e w' => e = .returned (.int .i64 (k + 2 : Nat)) ∧ at65 w' B (put L k (enc8 r)) ∧ Below B w w' ∧ w'.heap.size = w.heap.size := by
  have he : enc8 r = [192 + r / 64, 128 + r % 64] := by unfold enc8; rw [if_neg hr, if_pos hr2]
  have c0 := at65_cell hb k (by omega)
  have f0 := at65_fr hb k
  have c1 := at65_cell hb (k + 1) (by omega)
  have f1 := at65_fr hb (k + 1)
  generalize ((L.getD k 0 : Nat) : Int) = v0 at c0
  generalize ((L.getD (k + 1) 0 : Nat) : Int) = v1 at c1
  have HB : Hid _ := hb
  have HE : Hid _ := he
  obtain ⟨z, hz⟩ : ∃ z : Int, z = (r : Int) := ⟨_, rfl⟩
  rw [← hz]
  have hi : (128 : Int) ≤ z := by omega
  have hi2 : z < 2048 := by omega
  have HZ : Hid (z = (r : Int)) := hz
  have k0 : (k : Int) < 8 := by omega
  have k1 : (k : Int) + 1 < 8 := by omega
  clear hz hb hL he hr hr2
  go_enter Try.func35, Try.ntmps35
  go_wp2
  go_ret
  refine ⟨ret_int (by simp), ?_, ?_, by simp [World.setCell]⟩
  rotate_left
  · exact ((Below.refl B w).setCell (by simp) _).setCell (by simp) _
  rw [HE.out]
  exact at65_set (at65_set HB.out k _ (192 + r / 64) (by have := HZ.out; omega)) (k + 1) _ (128 + r % 64) (by have := HZ.out; omega)
set_option maxRecDepth 100000 in
set_option maxHeartbeats 400000 in
theorem put8_3 (B : Nat) (L : List Nat) (k r : Nat) (w : World) (hb : at65 w B L) (hL : L.length = 8) (hr : ¬ r < 2048) (hr2 : r < 65536) (hk : k + 3 ≤ 8) :
    Calls Try.prog 35 #[.pointer (some ⟨B, 0, none⟩), .int .i64 k, .int .i32 r] w fun e w' => e = .returned (.int .i64 (k + 3 : Nat)) ∧ at65 w' B (put L k (enc8 r)) ∧ Below B w w' ∧ w'.heap.size = w.heap.size := by
  have he : enc8 r = [224 + r / 4096, 128 + r / 64 % 64, 128 + r % 64] := by unfold enc8; rw [if_neg (by omega), if_neg hr, if_pos hr2]
  have c0 := at65_cell hb k (by omega)
  have f0 := at65_fr hb k
  have c1 := at65_cell hb (k + 1) (by omega)
  have f1 := at65_fr hb (k + 1)
  have c2 := at65_cell hb (k + 2) (by omega)
  have f2 := at65_fr hb (k + 2)
  generalize ((L.getD k 0 : Nat) : Int) = v0 at c0
  generalize ((L.getD (k + 1) 0 : Nat) : Int) = v1 at c1
  generalize ((L.getD (k + 2) 0 : Nat) : Int) = v2 at c2
  have HB : Hid _ := hb
  have HE : Hid _ := he
  obtain ⟨z, hz⟩ : ∃ z : Int, z = (r : Int) := ⟨_, rfl⟩
  rw [← hz]
  have hi : (2048 : Int) ≤ z := by omega
  have hi2 : z < 65536 := by omega
  have HZ : Hid (z = (r : Int)) := hz
  have k0 : (k : Int) < 8 := by omega
  have k1 : (k : Int) + 1 < 8 := by omega
  have k2 : (k : Int) + 2 < 8 := by omega
  clear hz hb hL he hr hr2
  go_enter Try.func35, Try.ntmps35
  go_wp2
  go_ret
  refine ⟨ret_int (by simp), ?_, ?_, by simp [World.setCell]⟩
  rotate_left
  · exact (((Below.refl B w).setCell (by simp) _).setCell (by simp) _).setCell (by simp) _
  rw [HE.out]
  exact at65_set (at65_set (at65_set HB.out k _ (224 + r / 4096) (by have := HZ.out; omega)) (k + 1) _ (128 + r / 64 % 64) (by have := HZ.out; omega)) (k + 2) _ (128 + r % 64) (by have := HZ.out; omega)
set_option maxRecDepth 100000 in
set_option maxHeartbeats 400000 in
theorem put8_4 (B : Nat) (L : List Nat) (k r : Nat) (w : World) (hb : at65 w B L) (hL : L.length = 8) (hr : ¬ r < 65536) (hr2 : r ≤ 1114111) (hk : k + 4 ≤ 8) :
    Calls Try.prog 35 #[.pointer (some ⟨B, 0, none⟩), .int .i64 k, .int .i32 r] w fun e w' => e = .returned (.int .i64 (k + 4 : Nat)) ∧ at65 w' B (put L k (enc8 r)) ∧ Below B w w' ∧ w'.heap.size = w.heap.size := by
  have he : enc8 r = [240 + r / 262144, 128 + r / 4096 % 64, 128 + r / 64 % 64, 128 + r % 64] := by unfold enc8; rw [if_neg (by omega), if_neg (by omega), if_neg hr]
  have c0 := at65_cell hb k (by omega)
  have f0 := at65_fr hb k
  have c1 := at65_cell hb (k + 1) (by omega)
  have f1 := at65_fr hb (k + 1)
  have c2 := at65_cell hb (k + 2) (by omega)
  have f2 := at65_fr hb (k + 2)
  have c3 := at65_cell hb (k + 3) (by omega)
  have f3 := at65_fr hb (k + 3)
  generalize ((L.getD k 0 : Nat) : Int) = v0 at c0
  generalize ((L.getD (k + 1) 0 : Nat) : Int) = v1 at c1
  generalize ((L.getD (k + 2) 0 : Nat) : Int) = v2 at c2
  generalize ((L.getD (k + 3) 0 : Nat) : Int) = v3 at c3
  have HB : Hid _ := hb
  have HE : Hid _ := he
  obtain ⟨z, hz⟩ : ∃ z : Int, z = (r : Int) := ⟨_, rfl⟩
  rw [← hz]
  have hi : (65536 : Int) ≤ z := by omega
  have hi2 : z ≤ 1114111 := by omega
  have HZ : Hid (z = (r : Int)) := hz
  have k0 : (k : Int) < 8 := by omega
  have k1 : (k : Int) + 1 < 8 := by omega
  have k2 : (k : Int) + 2 < 8 := by omega
  have k3 : (k : Int) + 3 < 8 := by omega
  clear hz hb hL he hr hr2
  go_enter Try.func35, Try.ntmps35
  go_wp2
  go_ret
  refine ⟨ret_int (by simp), ?_, ?_, by simp [World.setCell]⟩
  rotate_left
  · exact ((((Below.refl B w).setCell (by simp) _).setCell (by simp) _).setCell (by simp) _).setCell (by simp) _
  rw [HE.out]
  exact at65_set (at65_set (at65_set (at65_set HB.out k _ (240 + r / 262144) (by have := HZ.out; omega)) (k + 1) _ (128 + r / 4096 % 64) (by have := HZ.out; omega)) (k + 2) _ (128 + r / 64 % 64) (by have := HZ.out; omega)) (k + 3) _ (128 + r % 64) (by have := HZ.out; omega)
theorem put8_any (B : Nat) (L : List Nat) (k r : Nat) (w : World) (hb : at65 w B L) (hL : L.length = 8) (hr : Scalar r) (hk : k + len8 r ≤ 8) :
    Calls Try.prog 35 #[.pointer (some ⟨B, 0, none⟩), .int .i64 k, .int .i32 r] w fun e w' => e = .returned (.int .i64 (k + len8 r : Nat)) ∧ at65 w' B (put L k (enc8 r)) ∧ Below B w w' ∧ w'.heap.size = w.heap.size := by
  by_cases h1 : r < 128
  · have e : len8 r = 1 := by unfold len8; rw [if_pos h1]
    rw [e] at hk ⊢; exact put8_1 B L k r w hb hL h1 hk
  · by_cases h2 : r < 2048
    · have e : len8 r = 2 := by unfold len8; rw [if_neg h1, if_pos h2]
      rw [e] at hk ⊢; exact put8_2 B L k r w hb hL h1 h2 hk
    · by_cases h3 : r < 65536
      · have e : len8 r = 3 := by unfold len8; rw [if_neg h1, if_neg h2, if_pos h3]
        rw [e] at hk ⊢; exact put8_3 B L k r w hb hL h2 h3 hk
      · have e : len8 r = 4 := by unfold len8; rw [if_neg h1, if_neg h2, if_neg h3]
        rw [e] at hk ⊢; exact put8_4 B L k r w hb hL h3 hr.1 hk
end Go.Proofs.Qxb6603421a.WW
