import Derived.Test.Qxb6603449aRh
import Derived.Laws.ResultCell
namespace Go.Proofs.Qxb6603449a.BL
open Go.RowKit Go.ChangeMaps Go.MapKept
set_option linter.unusedVariables false
set_option linter.unusedSimpArgs false

/-! ### Nothing appended -/
theorem app_none (ty : TypeId) (ao bo : Option Addr) (n cap c : Nat) (h : n ≤ cap) (w : World) : (Builtin.append_ #[34, 34] ty #[.slice ao n cap, .slice bo 0 c]).run Try.prog w = .ok (.slice ao n cap) w := by
  obtain ⟨i, hi, hz0, hz1, hz2⟩ := info_parts info21
  cases ao <;> cases bo <;> simp [Builtin.append_, run_underlying Try.underlying34, Builtin.lenOf, Builtin.firstCells, h, storeCells, loadCells, loadCellsFrom]
/-! ### climb.up -/
set_option maxHeartbeats 4000000 in
theorem up_nil (pb o cap : Nat) (ao : Option Addr) (w : World) (h1 : w.cell? ⟨pb, o + 1, none⟩ = some (.slice ao 0 cap)) (hb : pb < w.heap.size) :
    Calls Try.prog 36 #[.pointer (some ⟨pb, o, none⟩)] w fun e w' => e = .returned (.tuple #[.agg #[.string ByteArray.empty, .int .i64 0], .bool false]) ∧ Below w.heap.size w w' := by
  have n1 : w.heap.size ≠ pb := by omega
  go_enter Try.func36, Try.ntmps36
  go_wp2
  (try simp only [Exit.inBlock, Exit.then])
  refine bodyPost_ret (v := .tuple #[.agg #[.string ByteArray.empty, .int .i64 0], .bool false]) ?_ rfl ⟨rfl, ?_⟩
  · rw [results_cell_tmp rfl]
    go_simp
    rfl
  · exact (Below.refl _ _).alloc (Nat.le_refl _) _
theorem up_grown (w : World) (pb o : Nat) (v : Value) (A B : Obj) : w.grownBy (((w.setCell ⟨pb, o, none⟩ v).alloc A).alloc B) (some pb) :=
  SO.grown_trans (SO.grown_set (SO.grown_refl w (some pb)) o v) (SO.grown_trans (World.grownBy_alloc _ _ _) (World.grownBy_alloc _ _ _))
theorem up_heap (w : World) (pb o : Nat) (v : Value) (A B : Obj) (h : pb < w.heap.size) : (((w.setCell ⟨pb, o, none⟩ v).alloc A).alloc B).heap[pb]? = (w.setCell ⟨pb, o, none⟩ v).heap[pb]? := by
  rw [Below.heap_alloc _ B pb (by simp; omega), Below.heap_alloc _ A pb (by simp; omega)]
set_option maxHeartbeats 4000000 in
theorem up_some (pb o n g off cap : Nat) (x : St) (a : Int) (w : World) (h1 : w.cell? ⟨pb, o + 1, none⟩ = some (.slice (some ⟨g, off, none⟩) (n + 1) cap)) (hf : w.frozen? ⟨pb, o + 1, none⟩ = false) (hcap : n + 1 ≤ cap) (hb : pb < w.heap.size) (hg : g < w.heap.size) (hne : g ≠ pb)
    (c1 : w.cell? ⟨g, off, none⟩ = some (.string x)) (c2 : w.cell? ⟨g, off + 1, none⟩ = some (.int .i64 a)) :
    Calls Try.prog 36 #[.pointer (some ⟨pb, o, none⟩)] w fun e w' => e = .returned (.tuple #[.agg #[.string x, .int .i64 a], .bool true]) ∧ ∃ ao, w.grownBy w' (some pb) ∧ w'.heap[pb]? = (w.setCell ⟨pb, o + 1, none⟩ (.slice ao n (cap - 1))).heap[pb]? ∧ (n ≠ 0 → ao = some ⟨g, off + 2, none⟩) ∧ ao ≠ none := by
  have n1 : w.heap.size ≠ pb := by omega
  have n2 : w.heap.size ≠ g := by omega
  have n3 : w.heap.size + 1 ≠ pb := by omega
  have n4 : w.heap.size + 1 ≠ g := by omega
  have i1 : (1 : Int) ≤ (cap : Int) := by omega
  have i2 : 1 ≤ cap := by omega
  have i3 : (1 : Int) ≤ ((n + 1 : Nat) : Int) := by omega
  by_cases hz : cap = 1
  · subst hz
    have hn : n = 0 := by omega
    subst hn
    go_enter Try.func36, Try.ntmps36
    go_wp2
    (try simp only [Exit.inBlock, Exit.then])
    refine bodyPost_ret (v := .tuple #[.agg #[.string x, .int .i64 a], .bool true]) ?_ rfl ⟨rfl, some ⟨g, off, none⟩, up_grown _ _ _ _ _ _ , up_heap _ _ _ _ _ _ hb, fun h => absurd rfl h, by simp⟩
    rw [results_cell_tmp rfl]
    go_simp
  · go_enter Try.func36, Try.ntmps36
    go_wp2
    (try simp only [Exit.inBlock, Exit.then])
    refine bodyPost_ret (v := .tuple #[.agg #[.string x, .int .i64 a], .bool true]) ?_ rfl ⟨rfl, some ⟨g, off + 2, none⟩, up_grown _ _ _ _ _ _ , up_heap _ _ _ _ _ _ hb, fun _ => rfl, by simp⟩
    rw [results_cell_tmp rfl]
    go_simp
end Go.Proofs.Qxb6603449a.BL
