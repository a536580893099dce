import Derived.Test.Qxb6603421aSd6
import Derived.Laws.CopyOwn
namespace Go.Proofs.Qxb6603421a.SD
open Go.RowKit Go.Proofs.Qxb6603421a.RI
set_option linter.unusedVariables false
set_option linter.unusedSimpArgs false

/-! ### The rows of shifts and of counts in memory -/
abbrev atC (w : World) (g : Nat) (F : Nat → Nat) : Prop := w.heap[g]? = some (.cells (cc F) 78 (0, 0))
abbrev atS (w : World) (g : Nat) (ps : List Nat) : Prop := w.heap[g]? = some (.cells (shl ps).toArray 75 (0, 0))
section
variable {w : World} {g : Nat} {F : Nat → Nat} {ps : List Nat}
theorem atC_at (h : atC w g F) (t : Nat) (ht : t < 2048) : w.cell? ⟨g, t, none⟩ = some (.int .u32 (F t : Int)) := by
  rw [cell_of_row w g _ _ 78 (0, 0) h]; exact cc_at F t ht
theorem atC_fr (h : atC w g F) (j : Nat) : w.frozen? ⟨g, j, none⟩ = false := frozen_of_row w g j _ 78 h
theorem atC_set (h : atC w g F) (t x : Nat) : atC (w.setCell ⟨g, t, none⟩ (.int .u32 (x : Int))) g (upd F t x) := by
  unfold atC; rw [heap_setCell_same w g _ _ 78 _ h, cc_set]
theorem atC_far (h : atC w g F) (a : Addr) (v : Value) (hne : g ≠ a.block) : atC (w.setCell a v) g F := by
  unfold atC; rw [heap_setCell_other w a g v hne]; exact h
theorem atC_lt (h : atC w g F) : g < w.heap.size := by
  by_cases hx : g < w.heap.size
  · exact hx
  · unfold atC at h; rw [Array.getElem?_eq_none (by omega)] at h; cases h
theorem atS_at (h : atS w g ps) (p : Nat) (hp : p < ps.length) : w.cell? ⟨g, p, none⟩ = some (.int .i64 ((8 * nx ps p : Nat) : Int)) := by
  rw [cell_of_row w g _ _ 75 (0, 0) h]; simpa using shl_at ps p hp
theorem atS_zero (h : atS w g ps) (hp : ps.length < 8) : w.cell? ⟨g, ps.length, none⟩ = some (.int .i64 0) := by
  rw [cell_of_row w g _ _ 75 (0, 0) h]; simpa using shl_zero ps hp
theorem atS_fr (h : atS w g ps) (j : Nat) : w.frozen? ⟨g, j, none⟩ = false := frozen_of_row w g j _ 75 h
theorem atS_set (h : atS w g ps) (b : Nat) (hp : ps.length < 8) : atS (w.setCell ⟨g, ps.length, none⟩ (.int .i64 ((8 * b : Nat) : Int))) g (ps ++ [b]) := by
  unfold atS; rw [heap_setCell_same w g _ _ 75 _ h]
  congr 2
  rw [List.setIfInBounds_toArray, shl_set ps b hp]
theorem atS_far (h : atS w g ps) (a : Addr) (v : Value) (hne : g ≠ a.block) : atS (w.setCell a v) g ps := by
  unfold atS; rw [heap_setCell_other w a g v hne]; exact h
theorem atS_lt (h : atS w g ps) : g < w.heap.size := by
  by_cases hx : g < w.heap.size
  · exact hx
  · unfold atS at h; rw [Array.getElem?_eq_none (by omega)] at h; cases h
end
theorem info78 : (Try.prog.info? 78).map (fun i => i.zero) = some (some (.agg (Array.replicate 2048 (.int .u32 0)))) := by kernel_rfl
theorem alloc78 (w : World) : (Instr.alloc 78 true (.tuple #[])).run Try.prog w = .ok (.pointer (some ⟨w.heap.size, 0, none⟩)) (w.alloc (.cells (cc fun _ => 0) 78)) := by
  obtain ⟨i, hi, hz⟩ := Option.map_eq_some_iff.1 info78
  rw [cc_zero]
  generalize Array.replicate 2048 (Value.int .u32 0) = Z at hz
  simp [Instr.alloc, zeroValue, typeInfo, hi, hz, newVar, newRow, newObj, Value.cells]
  rfl
theorem wpList_alloc78 {w : World} {ops : Array Oper} {rest : List Oper} {o : Oper} {a : Act} {Q : Exit → Act → World → Prop} (hgd : o.guard = none) (ho : o.op = .alloc 78)
    (h : wpList Try.prog ops Q rest (a.put o.dst (.pointer (some ⟨w.heap.size, 0, none⟩))) (w.alloc (.cells (cc fun _ => 0) 78))) : wpList Try.prog ops Q (o :: rest) a w := by
  refine wpList_plain hgd fun K hK => ?_
  have hrun := alloc78 w
  unfold Oper.wp
  simp [execOp, ho, hrun, Result.andThen]
  exact hK _ _ h
theorem copy24 (w : World) (ty : TypeId) (ga gb : Nat) (A B : List Ky) (n : Nat) (hA : A.length = n) (hB : B.length = n) (ha : atK w ga 57 A) (hb : atK w gb 57 B) :
    (Builtin.copy_ #[24, 24] ty #[.slice (some ⟨ga, 0, none⟩) n n, .slice (some ⟨gb, 0, none⟩) n n]).run Try.prog w = .ok (goInt n) (w.setRow ga (kflat B).toArray) := by
  obtain ⟨i, hi, hz0, hz1, hz2⟩ := info_parts info57
  have hlA := kflat_len A
  have hlB := kflat_len B
  have hl := run_loadCells_list (P := Try.prog) w ⟨gb, 0, none⟩ (kflat B) (fun j v hv => by
    rw [Addr.add_lit, cell_of_row w gb _ _ 57 (0, 0) hb]; simpa using hv)
  have hst := run_storeCells_at Try.prog ga 0 57 (kflat B) 0 (kflat A).toArray w ha (by simp; omega) (fun v hv => by
    clear hl hb hlB hB
    induction B with
    | nil => simp [kflat] at hv
    | cons p L ih =>
      simp only [kflat, List.mem_cons] at hv
      rcases hv with rfl | rfl | hv
      · rfl
      · rfl
      · exact ih hv)
  have e : (kflat B).length = n * 2 := by omega
  rw [e] at hl
  have e3 : List.drop (2 * B.length) (kflat A) = [] := by rw [List.drop_eq_nil_of_le]; omega
  have e4 : List.drop (n * 2) (kflat A) = [] := by rw [List.drop_eq_nil_of_le]; omega
  simp [Builtin.copy_, run_underlying Try.underlying24, Builtin.lenOf, Builtin.firstCells, sizeOf, typeInfo, hi, hz1, hl, hst, e, e3, e4]
/-- All that the radix sort holds. -/
structure Big (ga gb gs gc N : Nat) (A B : List Ky) (ps : List Nat) (F : Nat → Nat) (w wr : World) : Prop where
  duo : Duo ga gb N A B w wr
  s : atS wr gs ps
  c : atC wr gc F
  as_ : ga ≠ gs
  ac : ga ≠ gc
  bs : gb ≠ gs
  bc : gb ≠ gc
  sc : gs ≠ gc
  ls : N ≤ gs
  lc : N ≤ gc
section
variable {ga gb gs gc N : Nat} {A B : List Ky} {ps : List Nat} {F : Nat → Nat} {w wr wq : World}
theorem Big.on (h : Big ga gb gs gc N A B ps F w wr) (hb : Below wr.heap.size wr wq) : Big ga gb gs gc N A B ps F w wq :=
  ⟨h.duo.on hb, (hb.block _ (atS_lt h.s)).trans h.s, (hb.block _ (atC_lt h.c)).trans h.c, h.as_, h.ac, h.bs, h.bc, h.sc, h.ls, h.lc⟩
theorem Duo.far (h : Duo ga gb N A B w wr) (a : Addr) (v : Value) (h1 : ga ≠ a.block) (h2 : gb ≠ a.block) (h3 : N ≤ a.block) : Duo ga gb N A B w (wr.setCell a v) :=
  ⟨atK_far h.a _ _ h1, atK_far h.b _ _ h2, h.ne, h.la, h.lb, h.below.setCell h3 _⟩
theorem Big.count (h : Big ga gb gs gc N A B ps F w wr) (t x : Nat) : Big ga gb gs gc N A B ps (upd F t x) w (wr.setCell ⟨gc, t, none⟩ (.int .u32 (x : Int))) :=
  ⟨h.duo.far _ _ h.ac h.bc h.lc, atS_far h.s _ _ h.sc, atC_set h.c t x, h.as_, h.ac, h.bs, h.bc, h.sc, h.ls, h.lc⟩
theorem Big.put (h : Big ga gb gs gc N A B ps F w wr) (k : Nat) (x1 : Nat) (x2 : Int) :
    Big ga gb gs gc N A (B.set k (x1, x2)) ps F w ((wr.setCell ⟨gb, k * 2, none⟩ (.int .u64 (x1 : Int))).setCell ⟨gb, k * 2 + 1, none⟩ (.int .i64 x2)) :=
  ⟨h.duo.put k x1 x2, atS_far (atS_far h.s _ _ (fun e => h.bs e.symm)) _ _ (fun e => h.bs e.symm), atC_far (atC_far h.c _ _ (fun e => h.bc e.symm)) _ _ (fun e => h.bc e.symm), h.as_, h.ac, h.bs, h.bc, h.sc, h.ls, h.lc⟩
theorem Big.swap (h : Big ga gb gs gc N A B ps F w wr) : Big gb ga gs gc N B A ps F w wr := ⟨h.duo.swap, h.s, h.c, h.bs, h.bc, h.as_, h.ac, h.sc, h.ls, h.lc⟩
end
end Go.Proofs.Qxb6603421a.SD
