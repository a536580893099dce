import Derived.Test.Qxb6603421aProg
import Derived.Test.Qxb6603421aRuns
import Derived.Test.Qxb6603421aDist
import Derived.WalkKit
import Derived.WalkSpells
import Derived.WalkLawsBesides
import Derived.Deep.QuietTactic
import Derived.BigQuiet
import Derived.BigRegion
import Derived.Deep.RegionHeld3
import Derived.Laws.MakeOwn
namespace Go.Proofs.Qxb6603421a.SD
open Go.RowKit
set_option linter.unusedVariables false
set_option linter.unusedSimpArgs false

/-! ### Keys in memory: two cells each -/
abbrev Ky := Nat × Int
def kflat : List Ky → List Value
  | [] => []
  | p :: L => .int .u64 p.1 :: .int .i64 p.2 :: kflat L
theorem kflat_len (L : List Ky) : (kflat L).length = 2 * L.length := by
  induction L with
  | nil => rfl
  | cons p L ih => simp only [kflat, List.length_cons, ih]; omega
theorem kflat_fst (L : List Ky) (k : Nat) (h : k < L.length) : (kflat L)[k * 2]? = some (.int .u64 ((L.getD k (0, 0)).1 : Nat)) := by
  induction L generalizing k with
  | nil => simp at h
  | cons p L ih =>
    cases k with
    | zero => simp [kflat]
    | succ k => rw [show (k + 1) * 2 = k * 2 + 1 + 1 from by omega]; simp only [kflat, List.getElem?_cons_succ]; rw [ih k (by simpa using h)]; simp
theorem kflat_snd (L : List Ky) (k : Nat) (h : k < L.length) : (kflat L)[k * 2 + 1]? = some (.int .i64 (L.getD k (0, 0)).2) := by
  induction L generalizing k with
  | nil => simp at h
  | cons p L ih =>
    cases k with
    | zero => simp [kflat]
    | succ k => rw [show (k + 1) * 2 + 1 = k * 2 + 1 + 1 + 1 from by omega]; simp only [kflat, List.getElem?_cons_succ]; rw [ih k (by simpa using h)]; simp
theorem kflat_set (L : List Ky) (k : Nat) (a : Nat) (b : Int) : ((kflat L).set (k * 2) (.int .u64 (a : Int))).set (k * 2 + 1) (.int .i64 b) = kflat (L.set k (a, b)) := by
  induction L generalizing k with
  | nil => rfl
  | cons p L ih =>
    cases k with
    | zero => simp [kflat]
    | succ k =>
      rw [show (k + 1) * 2 = k * 2 + 1 + 1 from by omega]
      simp only [kflat, List.set_cons_succ, ih]
/-- Block g holds the keys L (T: the type of its elements). -/
abbrev atK (w : World) (g : Nat) (T : TypeId) (L : List Ky) : Prop := w.heap[g]? = some (.cells (kflat L).toArray T (0, 0))
section
variable {w : World} {g : Nat} {T : TypeId} {L : List Ky}
theorem atK_w (h : atK w g T L) (k : Nat) (hk : k < L.length) : w.cell? ⟨g, k * 2, none⟩ = some (.int .u64 ((L.getD k (0, 0)).1 : Nat)) := by
  rw [cell_of_row w g _ _ T (0, 0) h]; simpa using kflat_fst L k hk
theorem atK_a (h : atK w g T L) (k : Nat) (hk : k < L.length) : w.cell? ⟨g, k * 2 + 1, none⟩ = some (.int .i64 (L.getD k (0, 0)).2) := by
  rw [cell_of_row w g _ _ T (0, 0) h]; simpa using kflat_snd L k hk
theorem atK_fr (h : atK w g T L) (j : Nat) : w.frozen? ⟨g, j, none⟩ = false := frozen_of_row w g j _ T h
theorem atK_set (h : atK w g T L) (k : Nat) (a : Nat) (b : Int) :
    atK ((w.setCell ⟨g, k * 2, none⟩ (.int .u64 (a : Int))).setCell ⟨g, k * 2 + 1, none⟩ (.int .i64 b)) g T (L.set k (a, b)) := by
  unfold atK
  rw [heap_setCell_same _ g _ _ T _ (heap_setCell_same w g _ _ T _ h)]
  congr 2
  simp only [List.setIfInBounds_toArray]
  rw [kflat_set]
theorem atK_far (h : atK w g T L) (a : Addr) (v : Value) (hne : g ≠ a.block) : atK (w.setCell a v) g T L := by
  unfold atK; rw [heap_setCell_other w a g v hne]; exact h
theorem atK_lt (h : atK w g T L) : g < w.heap.size := by
  by_cases hx : g < w.heap.size
  · exact hx
  · unfold atK at h; rw [Array.getElem?_eq_none (by omega)] at h; cases h
end
theorem made (n : Nat) : madeCells #[.int .u64 0, .int .i64 0] (n * 2) = (kflat (List.replicate n ((0 : Nat), (0 : Int)))).toArray := by
  apply Array.ext_getElem?
  intro j
  by_cases hj : j < n * 2
  · have h1 : (madeCells #[.int .u64 0, .int .i64 0] (n * 2))[j]? = some (#[Value.int .u64 0, .int .i64 0][j % 2]!) := by
      unfold madeCells; simp [hj]
    rw [h1]
    obtain ⟨k, hk⟩ : ∃ k, j = k * 2 ∨ j = k * 2 + 1 := ⟨j / 2, by omega⟩
    rcases hk with rfl | rfl
    · have := kflat_fst (List.replicate n ((0 : Nat), (0 : Int))) k (by simp; omega)
      rw [List.getElem?_toArray, this, show k * 2 % 2 = 0 from by omega]
      simp [show k < n by omega]
    · have := kflat_snd (List.replicate n ((0 : Nat), (0 : Int))) k (by simp; omega)
      rw [List.getElem?_toArray, this, show (k * 2 + 1) % 2 = 1 from by omega]
      simp [show k < n by omega]
  · rw [Array.getElem?_eq_none (by rw [size_madeCells]; omega), Array.getElem?_eq_none (by simp [kflat_len]; omega)]
theorem info57 : (Try.prog.info? 57).map (fun i => (i.zero, i.size, i.bytes)) = some (some (.agg #[.int .u64 0, .int .i64 0]), 2, 16) := by kernel_rfl
theorem info60 : (Try.prog.info? 60).map (fun i => (i.zero, i.size, i.bytes)) = some (some (.agg #[.int .u64 0, .int .i64 0]), 2, 16) := by kernel_rfl
theorem make24 (n : Nat) (hn : n ≤ 1048576) (w : World) : (Instr.makeSlice 24 (.int .i64 n) (.int .i64 n)).run Try.prog w = .ok (.slice (some ⟨w.heap.size, 0, none⟩) n n) (w.alloc (.cells (kflat (List.replicate n ((0 : Nat), (0 : Int)))).toArray 57)) := by
  obtain ⟨i0, hi, hz0, hz1, hz2⟩ := info_parts info57
  have := run_make w 24 57 i0 _ Try.underlying24 hi hz0 .i64 .i64 n n (by omega) (Int.le_refl _) (by rw [hz2]; omega) (by omega)
  rw [this, ← made, hz1]
  rfl
theorem make22 (n : Nat) (hn : n ≤ 1048576) (w : World) : (Instr.makeSlice 22 (.int .i64 n) (.int .i64 n)).run Try.prog w = .ok (.slice (some ⟨w.heap.size, 0, none⟩) n n) (w.alloc (.cells (kflat (List.replicate n ((0 : Nat), (0 : Int)))).toArray 60)) := by
  obtain ⟨i0, hi, hz0, hz1, hz2⟩ := info_parts info60
  have := run_make w 22 60 i0 _ Try.underlying22 hi hz0 .i64 .i64 n n (by omega) (Int.le_refl _) (by rw [hz2]; omega) (by omega)
  rw [this, ← made, hz1]
  rfl

/-! ### ZZMakeKey, ZZKeyW, ZZKeyAt, keyLess -/
theorem mk_any (x : Int) (y : Int) (w : World) : Calls Try.prog 29 #[.int .u64 x, .int .i64 y] w fun e w' => e = .returned (.agg #[.int .u64 x, .int .i64 y]) ∧ w' = w.alloc (.cells #[.int .u64 x, .int .i64 y] 57) := by
  go_enter Try.func29, Try.ntmps29
  go_wp2
  exact bodyPost_ret (v := .agg #[.int .u64 x, .int .i64 y]) (by simp [results, Try.results29, go_sem]) rfl ⟨rfl, rfl⟩
theorem kw_any (x : Int) (y : Int) (w : World) : Calls Try.prog 31 #[.agg #[.int .u64 x, .int .i64 y]] w fun e w' => e = .returned (.int .u64 x) ∧ w' = w.alloc (.cells #[.int .u64 x, .int .i64 y] 57) := by
  go_enter Try.func31, Try.ntmps31
  go_wp2
  go_ret
  exact ⟨rfl, rfl⟩
theorem kat_any (x : Int) (y : Int) (w : World) : Calls Try.prog 32 #[.agg #[.int .u64 x, .int .i64 y]] w fun e w' => e = .returned (.int .i64 y) ∧ w' = w.alloc (.cells #[.int .u64 x, .int .i64 y] 57) := by
  go_enter Try.func32, Try.ntmps32
  go_wp2
  go_ret
  exact ⟨rfl, rfl⟩

/-! ### keyLess: the order as a number -/
def rk (full : Bool) (k : Ky) : Nat := if full then k.1 * 18446744073709551616 + (k.2 + 9223372036854775808).toNat else k.1
def okK (k : Ky) : Prop := k.1 < 18446744073709551616 ∧ -9223372036854775808 ≤ k.2 ∧ k.2 ≤ 9223372036854775807
theorem rk_lt_of (full : Bool) (x y : Ky) (hx : okK x) (hy : okK y) (h : x.1 < y.1) : rk full x < rk full y := by
  unfold rk; obtain ⟨_, a, b⟩ := hx; obtain ⟨_, c, d⟩ := hy
  cases full <;> simp <;> omega
theorem rk_eq (full : Bool) (x y : Ky) (hx : okK x) (hy : okK y) (h : x.1 = y.1) : rk full x < rk full y ↔ (full = true ∧ x.2 < y.2) := by
  unfold rk; obtain ⟨_, a, b⟩ := hx; obtain ⟨_, c, d⟩ := hy
  cases full <;> simp [h] <;> omega
theorem less_core (x1 y1 x2 y2 : Int) (full : Bool) (R : Bool) (w : World) (h : ((x1 != y1) = true ∧ decide (x1 < y1) = R) ∨ ((x1 != y1) = false ∧ full = true ∧ decide (x2 < y2) = R) ∨ ((x1 != y1) = false ∧ full = false ∧ R = false)) :
    Calls Try.prog 33 #[.agg #[.int .u64 x1, .int .i64 x2], .agg #[.int .u64 y1, .int .i64 y2], .bool full] w fun e w' => e = .returned (.bool R) ∧ Below w.heap.size w w' := by
  rcases h with ⟨h1, rfl⟩ | ⟨h1, rfl, rfl⟩ | ⟨h1, rfl, rfl⟩
  all_goals
    go_enter Try.func33, Try.ntmps33
    go_wp2
    go_ret
    exact ⟨rfl, ((Below.refl _ _).alloc (Nat.le_refl _) _).alloc (by simp) _⟩
theorem less_any (x y : Ky) (full : Bool) (hx : okK x) (hy : okK y) (w : World) :
    Calls Try.prog 33 #[.agg #[.int .u64 (x.1 : Int), .int .i64 x.2], .agg #[.int .u64 (y.1 : Int), .int .i64 y.2], .bool full] w fun e w' => e = .returned (.bool (decide (rk full x < rk full y))) ∧ Below w.heap.size w w' := by
  refine less_core _ _ _ _ full _ w ?_
  by_cases h : x.1 = y.1
  · have hb : ((x.1 : Int) != (y.1 : Int)) = false := by rw [h]; simp
    have hr := rk_eq full x y hx hy h
    cases full
    · exact Or.inr (Or.inr ⟨hb, rfl, by simp [hr]⟩)
    · exact Or.inr (Or.inl ⟨hb, rfl, by simp [hr]⟩)
  · have hb : ((x.1 : Int) != (y.1 : Int)) = true := by simp; omega
    refine Or.inl ⟨hb, ?_⟩
    by_cases h2 : x.1 < y.1
    · have := rk_lt_of full x y hx hy h2
      simp [this, h2]
    · have := rk_lt_of full y x hy hx (by omega)
      simp only [show ¬ (x.1 : Int) < (y.1 : Int) by omega, show ¬ rk full x < rk full y by omega]
end Go.Proofs.Qxb6603421a.SD
