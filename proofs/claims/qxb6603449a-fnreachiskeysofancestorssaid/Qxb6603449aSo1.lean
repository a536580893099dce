import Derived.Test.Qxb6603449aBl5
namespace Go.Proofs.Qxb6603449a.SO
open Go.RowKit
set_option linter.unusedVariables false
set_option linter.unusedSimpArgs false

/-! ### Numbers told by a function of the place; what exchanges inside a span do -/
abbrev Fn := Nat → Int
def sw (d : Fn) (i j : Nat) : Fn := fun k => if k = i then d j else if k = j then d i else d k
inductive Sw (a b : Nat) : Fn → Fn → Prop where
  | refl (d : Fn) : Sw a b d d
  | step {d e : Fn} (i j : Nat) (h : Sw a b d e) (h1 : a ≤ i) (h2 : i < b) (h3 : a ≤ j) (h4 : j < b) : Sw a b d (sw e i j)
theorem Sw.trans {a b : Nat} {d e f : Fn} (h : Sw a b d e) (k : Sw a b e f) : Sw a b d f := by
  induction k with
  | refl => exact h
  | step i j _ h1 h2 h3 h4 ih => exact Sw.step i j ih h1 h2 h3 h4
theorem Sw.wide {a b a' b' : Nat} {d e : Fn} (h : Sw a b d e) (ha : a' ≤ a) (hb : b ≤ b') : Sw a' b' d e := by
  induction h with
  | refl => exact Sw.refl _
  | step i j _ h1 h2 h3 h4 ih => exact Sw.step i j ih (by omega) (by omega) (by omega) (by omega)
theorem sw_out {d : Fn} {i j k : Nat} (h1 : k ≠ i) (h2 : k ≠ j) : sw d i j k = d k := by unfold sw; rw [if_neg h1, if_neg h2]
theorem sw_l (d : Fn) (i j : Nat) : sw d i j i = d j := by unfold sw; rw [if_pos rfl]
theorem sw_r (d : Fn) (i j : Nat) : sw d i j j = d i := by
  unfold sw
  by_cases h : j = i
  · rw [if_pos h, h]
  · rw [if_neg h, if_pos rfl]
theorem Sw.out {a b : Nat} {d e : Fn} (h : Sw a b d e) {k : Nat} (hk : k < a ∨ b ≤ k) : e k = d k := by
  induction h with
  | refl => rfl
  | step i j _ h1 h2 h3 h4 ih => rw [sw_out (by omega) (by omega)]; exact ih
theorem sw_in {d : Fn} {i j k a b : Nat} (Q : Int → Prop) (h : ∀ k, a ≤ k → k < b → Q (d k)) (h1 : a ≤ i) (h2 : i < b) (h3 : a ≤ j) (h4 : j < b) (hk1 : a ≤ k) (hk2 : k < b) : Q (sw d i j k) := by
  unfold sw
  by_cases e1 : k = i
  · rw [if_pos e1]; exact h j h3 h4
  · by_cases e2 : k = j
    · rw [if_neg e1, if_pos e2]; exact h i h1 h2
    · rw [if_neg e1, if_neg e2]; exact h k hk1 hk2
theorem Sw.all {a b : Nat} {d e : Fn} (h : Sw a b d e) (Q : Int → Prop) (hq : ∀ k, a ≤ k → k < b → Q (d k)) : ∀ k, a ≤ k → k < b → Q (e k) := by
  induction h with
  | refl => exact hq
  | step i j _ h1 h2 h3 h4 ih => exact fun k hk1 hk2 => sw_in Q ih h1 h2 h3 h4 hk1 hk2
def Srt (a b : Nat) (d : Fn) : Prop := ∀ i, a < i → i < b → d (i - 1) ≤ d i
theorem Srt.le {a b : Nat} {d : Fn} (h : Srt a b d) (i k : Nat) (hi : a ≤ i) (hk : i + k < b) : d i ≤ d (i + k) := by
  induction k with
  | zero => exact Int.le_refl _
  | succ k ih =>
    have := h (i + k + 1) (by omega) (by omega)
    rw [show i + k + 1 - 1 = i + k from by omega] at this
    exact Int.le_trans (ih (by omega)) this
theorem Srt.pair {a b : Nat} {d : Fn} (h : Srt a b d) {i j : Nat} (hi : a ≤ i) (hij : i ≤ j) (hj : j < b) : d i ≤ d j := by
  have := h.le i (j - i) hi (by omega)
  rw [show i + (j - i) = j from by omega] at this
  exact this
theorem Srt.congr {a b : Nat} {d e : Fn} (h : Srt a b d) (he : ∀ k, a ≤ k → k < b → e k = d k) : Srt a b e := fun i h1 h2 => by rw [he _ (by omega) (by omega), he _ (by omega) h2]; exact h i h1 h2

/-! ### In memory -/
def cel (n : Nat) (d : Fn) : List Value := (List.range n).map fun i => Value.int .i32 (d i)
theorem cel_len (n : Nat) (d : Fn) : (cel n d).length = n := by simp [cel]
theorem cel_at (n : Nat) (d : Fn) (i : Nat) (h : i < n) : (cel n d)[i]? = some (.int .i32 (d i)) := by simp [cel, h]
def up1 (d : Fn) (i : Nat) (x : Int) : Fn := fun k => if k = i then x else d k
theorem cel_set (n : Nat) (d : Fn) (i : Nat) (x : Int) : (cel n d).set i (.int .i32 x) = cel n (up1 d i x) := by
  apply List.ext_getElem?
  intro k
  by_cases hk : k < n
  · rw [List.getElem?_set, cel_at n (up1 d i x) _ hk, cel_len]
    by_cases e : i = k
    · subst e; simp [hk, up1]
    · have e' : ¬ k = i := fun c => e c.symm
      rw [if_neg e, cel_at n d _ hk]; simp [up1, e']
  · rw [List.getElem?_eq_none (by rw [List.length_set, cel_len]; omega), List.getElem?_eq_none (by rw [cel_len]; omega)]
theorem up_sw (d : Fn) (i j : Nat) : up1 (up1 d i (d j)) j (d i) = sw d i j := by
  funext k
  unfold up1 sw
  by_cases e2 : k = j
  · by_cases e1 : k = i
    · rw [if_pos e2, if_pos e1, ← e1, e2]
    · rw [if_pos e2, if_neg e1, if_pos e2]
  · rw [if_neg e2]
    by_cases e1 : k = i
    · rw [if_pos e1, if_pos e1]
    · rw [if_neg e1, if_neg e1, if_neg e2]
abbrev rowD (w : World) (g n : Nat) (V : List Value) (d : Fn) : Prop := w.heap[g]? = some (.cells (cel n d ++ V).toArray 21 (0, 0))
section
variable {w wr wq : World} {g n : Nat} {V : List Value} {d : Fn}
theorem rowD_at (h : rowD w g n V d) (i : Nat) (hi : i < n) : w.cell? ⟨g, i, none⟩ = some (.int .i32 (d i)) := by
  rw [cell_of_row w g _ _ 21 (0, 0) h, List.getElem?_toArray, List.getElem?_append_left (by rw [cel_len]; exact hi), cel_at _ _ _ hi]
theorem rowD_fr (h : rowD w g n V d) (j : Nat) : w.frozen? ⟨g, j, none⟩ = false := frozen_of_row w g j _ 21 h
theorem rowD_set (h : rowD w g n V d) (i : Nat) (hi : i < n) (x : Int) : rowD (w.setCell ⟨g, i, none⟩ (.int .i32 x)) g n V (up1 d i x) := by
  unfold rowD
  rw [heap_setCell_same w g _ _ 21 _ h]
  congr 2
  rw [List.setIfInBounds_toArray, List.set_append_left _ _ (by rw [cel_len]; exact hi), cel_set]
theorem rowD_lt (h : rowD w g n V d) : g < w.heap.size := by
  by_cases hx : g < w.heap.size
  · exact hx
  · unfold rowD at h; rw [Array.getElem?_eq_none (by omega)] at h; cases h
/-- The row as it stands, and that nothing but the row has turned since w. -/
structure Sr (w wr : World) (g n : Nat) (V : List Value) (d : Fn) : Prop where
  row : rowD wr g n V d
  fr : w.grownBy wr (some g)
theorem grown_refl (w : World) (r : Option Nat) : w.grownBy w r := World.grownBy.refl w r
theorem grown_trans {a b c : World} {r : Option Nat} (h : a.grownBy b r) (k : b.grownBy c r) : a.grownBy c r :=
  ⟨k.os.trans h.os, k.tape.trans h.tape, k.output.trans h.output, Nat.le_trans h.size k.size, fun i hi hne => (k.block i (Nat.lt_of_lt_of_le hi h.size) hne).trans (h.block i hi hne)⟩
theorem grown_drewN {a b : World} {r : Option Nat} (h : a.grownBy b r) (m : Nat) : a.grownBy (b.drewN m) r := ⟨h.os, h.tape, h.output, h.size, h.block⟩
theorem grown_set {a b : World} {g : Nat} (h : a.grownBy b (some g)) (i : Nat) (v : Value) : a.grownBy (b.setCell ⟨g, i, none⟩ v) (some g) :=
  grown_trans h ⟨rfl, rfl, rfl, by simp, fun k _ hne => heap_setCell_other _ _ _ _ (fun e => hne (by simp only at e; rw [e]))⟩
theorem Sr.swap (h : Sr w wr g n V d) (i j m : Nat) (hi : i < n) (hj : j < n) : Sr w (((wr.setCell ⟨g, i, none⟩ (.int .i32 (d j))).setCell ⟨g, j, none⟩ (.int .i32 (d i))).drewN m) g n V (sw d i j) := by
  refine ⟨?_, grown_drewN (grown_set (grown_set h.fr _ _) _ _) m⟩
  have := rowD_set (rowD_set h.row i hi (d j)) j hj (d i)
  rw [up_sw] at this
  exact this
theorem Sr.drewN (h : Sr w wr g n V d) (m : Nat) : Sr w (wr.drewN m) g n V d := ⟨h.row, grown_drewN h.fr m⟩
theorem Sr.on (h : Sr w wr g n V d) {e : Fn} (k : Sr wr wq g n V e) : Sr w wq g n V e := ⟨k.row, grown_trans h.fr k.fr⟩
theorem Sr.self (h : rowD w g n V d) : Sr w w g n V d := ⟨h, grown_refl _ _⟩
end

/-! ### cmp.Less -/
theorem nan_any (x : Int) (w : World) : Calls Try.prog 59 #[.int .i32 x] w fun e w' => e = .returned (.bool false) ∧ w' = w := by
  go_enter Try.func59, Try.ntmps59
  go_wp2
  go_ret
  refine ⟨?_, rfl⟩
  simp
theorem less_any (x y : Int) (t : Bool) (w : World) (ht : t = decide (x < y)) : Calls Try.prog 49 #[.int .i32 x, .int .i32 y] w fun e w' => e = .returned (.bool t) ∧ w' = w := by
  subst ht
  go_enter Try.func49, Try.ntmps49
  go_wp2_with (go_at_call 59; refine (nan_any _ _).mono ?_; rintro e w' ⟨rfl, rfl⟩)
  go_ret
  exact ⟨rfl, rfl⟩
end Go.Proofs.Qxb6603449a.SO
