import Derived.Test.Qxb6603449aBl1
import Derived.Test.Qxb6603449aProg
import Derived.WalkKit
import Derived.WalkSpells
import Derived.WalkLawsBesides
import Derived.Deep.QuietTactic
import Derived.BigQuiet
import Derived.BigRegion
import Derived.Deep.RegionHeld3
import Derived.Deep.AppendLies
import Derived.Deep.CutRange
import Derived.Laws.MakeOwn
import Derived.Maps.OwnOps
namespace Go.Proofs.Qxb6603449a.BL
open Go.RowKit Go.ChangeMaps Go.MapKept
set_option linter.unusedVariables false
set_option linter.unusedSimpArgs false

/-! ### A map in memory: the list of its entries, in the order they came -/
def ents (i : Nat) : List (St × Value) → List MapEntry
  | [] => []
  | p :: L => { key := .string p.1, val := p.2, born := i } :: ents (i + 1) L
theorem ents_snoc (i : Nat) (L : List (St × Value)) (x : St) (v : Value) : ents i (L ++ [(x, v)]) = ents i L ++ [{ key := .string x, val := v, born := i + L.length }] := by
  induction L generalizing i with
  | nil => rfl
  | cons p L ih => simp only [List.cons_append, ents, ih, List.length_cons]; congr 4; omega
theorem ents_len (i : Nat) (L : List (St × Value)) : (ents i L).length = L.length := by
  induction L generalizing i with
  | nil => rfl
  | cons p L ih => simp [ents, ih]
theorem find_none (x : St) (i j : Nat) (L : List (St × Value)) (h : get L x = none) : Instr.findNow .string (.string x) (ents i L) j = some none := by
  induction L generalizing i j with
  | nil => rfl
  | cons p L ih =>
    unfold get at h
    simp only [List.find?_cons] at h
    by_cases e : p.1 = x
    · have e' : (p.1 == x) = true := by simpa using e
      rw [e'] at h; simp at h
    · have e' : (p.1 == x) = false := by simpa using e
      rw [e'] at h
      have e2 : (x == p.1) = false := by simpa using fun c => e c.symm
      simp only [ents, Instr.findNow, Instr.sameNow, e2]
      exact ih _ _ h
theorem find_some (x : St) (v : Value) (i j : Nat) (L : List (St × Value)) (h : get L x = some v) : ∃ t, Instr.findNow .string (.string x) (ents i L) j = some (some (t, v)) := by
  induction L generalizing i j with
  | nil => simp [get] at h
  | cons p L ih =>
    unfold get at h
    simp only [List.find?_cons] at h
    by_cases e : p.1 = x
    · have e' : (p.1 == x) = true := by simpa using e
      rw [e'] at h
      have e2 : (x == p.1) = true := by simpa using e.symm
      simp only [ents, Instr.findNow, Instr.sameNow, e2]
      exact ⟨j, by simpa using h⟩
    · have e' : (p.1 == x) = false := by simpa using e
      rw [e'] at h
      have e2 : (x == p.1) = false := by simpa using fun c => e c.symm
      simp only [ents, Instr.findNow, Instr.sameNow, e2]
      exact ih _ _ h
abbrev atM (w : World) (b : Nat) (L : List (St × Value)) : Prop := w.heap[b]? = some (.map (ents 0 L).toArray L.length)
def putM (w : World) (b : Nat) (L : List (St × Value)) : World := setBlock w b (.map (ents 0 L).toArray L.length)
section
variable {w : World} {b : Nat} {L : List (St × Value)}
theorem atM_lt (h : atM w b L) : b < w.heap.size := by
  by_cases hx : b < w.heap.size
  · exact hx
  · unfold atM at h; rw [Array.getElem?_eq_none (by omega)] at h; cases h
theorem atM_made (w : World) : atM (w.alloc (.map #[] 0)) w.heap.size [] := heap_alloc_new w _
theorem atM_alloc (h : atM w b L) (o : Obj) : atM (w.alloc o) b L := by unfold atM; rw [Below.heap_alloc w o b (atM_lt h)]; exact h
theorem putM_same (hb : b < w.heap.size) (L : List (St × Value)) : atM (putM w b L) b L := by
  unfold atM putM setBlock; simp [hb]
theorem putM_other (w : World) (b j : Nat) (L : List (St × Value)) (h : j ≠ b) : (putM w b L).heap[j]? = w.heap[j]? := by
  unfold putM setBlock; simp only; rw [Array.getElem?_setIfInBounds_ne (fun e => h e.symm)]
theorem putM_size (w : World) (b : Nat) (L : List (St × Value)) : (putM w b L).heap.size = w.heap.size := by unfold putM setBlock; simp
theorem putM_below (w : World) (b N : Nat) (L : List (St × Value)) (h : N ≤ b) : Below N w (putM w b L) :=
  ⟨rfl, rfl, rfl, by rw [putM_size]; exact Nat.le_refl _, fun j hj => putM_other w b j L (by omega)⟩
theorem go_map (h : atM w b L) : (getObj b).run Try.prog w = .ok (.map (ents 0 L).toArray L.length) w := by simp [getObj, Sem.run, h]
theorem set_map (h : atM w b L) (o : Obj) : (setObj b o).run Try.prog w = .ok () (setBlock w b o) := by simp [setObj, Sem.run, h, setBlock]
theorem check9 (e : Bool) (n : Nat) (x : St) (w : World) : (Instr.checkKey e (n + 1) 9 (.string x)).run Try.prog w = .ok () w := by
  unfold Instr.checkKey
  simp [run_underlying Try.underlying9]
theorem look_none (t e : TypeId) (ht : Try.prog.underlying t = some (.map 9 e)) (z : Value) (hz : (zeroValue e).run Try.prog w = .ok z w) (h : atM w b L) (x : St) (hg : get L x = none) (c : Bool) :
    (Instr.lookup t (.map (some b)) (.string x) c).run Try.prog w = .ok (if c then .tuple #[z, .bool false] else z) w := by
  have hf := find_none x 0 0 L hg
  have hc : ∀ e, (Instr.checkKey e 10000 9 (.string x)).run Try.prog w = .ok () w := fun e => check9 e 9999 x w
  have hgo := go_map h
  simp [Instr.lookup, run_underlying ht, hgo, hc, Instr.findKey, run_underlying Try.underlying9, hf, hz]
theorem look_some (t e : TypeId) (ht : Try.prog.underlying t = some (.map 9 e)) (h : atM w b L) (x : St) (v : Value) (hg : get L x = some v) (c : Bool) :
    (Instr.lookup t (.map (some b)) (.string x) c).run Try.prog w = .ok (if c then .tuple #[v, .bool true] else v) w := by
  obtain ⟨k, hf⟩ := find_some x v 0 0 L hg
  have hc : ∀ e, (Instr.checkKey e 10000 9 (.string x)).run Try.prog w = .ok () w := fun e => check9 e 9999 x w
  have hgo := go_map h
  simp [Instr.lookup, run_underlying ht, hgo, hc, Instr.findKey, run_underlying Try.underlying9, hf]
theorem upd_none (t e : TypeId) (ht : Try.prog.underlying t = some (.map 9 e)) (h : atM w b L) (x : St) (v : Value) (hg : get L x = none) :
    (Instr.mapUpdate t (.map (some b)) (.string x) v).run Try.prog w = .ok () (putM w b (L ++ [(x, v)])) := by
  have hf := find_none x 0 0 L hg
  have hc : ∀ e, (Instr.checkKey e 10000 9 (.string x)).run Try.prog w = .ok () w := fun e => check9 e 9999 x w
  have hgo := go_map h
  have e1 : (ents 0 L).toArray.push { key := .string x, val := v, born := L.length } = (ents 0 (L ++ [(x, v)])).toArray := by rw [ents_snoc]; simp
  simp [Instr.mapUpdate, run_underlying ht, hgo, hc, Instr.findKey, run_underlying Try.underlying9, hf, set_map h, putM, e1, -List.push_toArray]
end
section
variable {w : World} {ops : Array Oper} {rest : List Oper} {o : Oper} {a : Act} {Q : Exit → Act → World → Prop}
theorem wpList_look (hgd : o.guard = none) (m x : Operand) (t : TypeId) (c : Bool) (hop : o.op = .lookup t m x c) (b : Nat) (s : St) (hm : a.eval m = .map (some b)) (hx : a.eval x = .string s) (r : Value)
    (hrun : (Instr.lookup t (.map (some b)) (.string s) c).run Try.prog w = .ok r w) (h : wpList Try.prog ops Q rest (a.put o.dst r) w) : wpList Try.prog ops Q (o :: rest) a w := by
  refine wpList_plain hgd fun K hK => ?_
  unfold Oper.wp
  simp [execOp, hop, hm, hx, hrun, Result.andThen]
  exact hK _ _ h
theorem wpList_upd (hgd : o.guard = none) (m x y : Operand) (t : TypeId) (hop : o.op = .mapUpdate t m x y) (b : Nat) (s : St) (v : Value) (w' : World) (hm : a.eval m = .map (some b)) (hx : a.eval x = .string s) (hy : a.eval y = v)
    (hrun : (Instr.mapUpdate t (.map (some b)) (.string s) v).run Try.prog w = .ok () w') (h : wpList Try.prog ops Q rest (a.put o.dst undef) w') : wpList Try.prog ops Q (o :: rest) a w := by
  refine wpList_plain hgd fun K hK => ?_
  unfold Oper.wp
  simp [execOp, hop, hm, hx, hy, hrun, Result.andThen]
  exact hK _ _ h
end
theorem zero4 (w : World) : (zeroValue 4).run Try.prog w = .ok (.bool false) w := by kernel_rfl
theorem zero54 (w : World) : (zeroValue 54).run Try.prog w = .ok (.pointer none) w := by kernel_rfl
theorem len_map (ty : TypeId) {w : World} {b : Nat} {L : List (St × Value)} (h : atM w b L) : (Builtin.len_ #[29] ty #[.map (some b)]).run Try.prog w = .ok (goInt L.length) w := by
  simp [Builtin.len_, Builtin.lenOf, run_underlying Try.underlying29, go_map h, ents_len]

/-! ### Slices that can be read -/
def StrRd (w : World) (ao : Option Addr) (S : List St) : Prop := S = [] ∨ ∃ b off, ao = some ⟨b, off, none⟩ ∧ b < w.heap.size ∧ ∀ i, i < S.length → w.cell? ⟨b, off + i, none⟩ = some (.string (S.getD i ByteArray.empty))
def LstRd (w : World) (ao : Option Addr) (Ms : List (List St)) : Prop := Ms = [] ∨ ∃ b off, ao = some ⟨b, off, none⟩ ∧ b < w.heap.size ∧ ∀ i, i < Ms.length → ∃ ai ci, w.cell? ⟨b, off + i, none⟩ = some (.slice ai (mm Ms i).length ci) ∧ StrRd w ai (mm Ms i) ∧ (ai = none → (mm Ms i).length = 0 ∧ ci = 0)
theorem StrRd.on {w w' : World} {ao : Option Addr} {S : List St} (h : StrRd w ao S) (hb : Below w.heap.size w w') : StrRd w' ao S := by
  rcases h with h | ⟨b, off, e, hlt, hc⟩
  · exact Or.inl h
  · exact Or.inr ⟨b, off, e, by have := hb.size; omega, fun i hi => (hb.cell (p := ⟨b, _, none⟩) hlt).trans (hc i hi)⟩
theorem LstRd.on {w w' : World} {ao : Option Addr} {Ms : List (List St)} (h : LstRd w ao Ms) (hb : Below w.heap.size w w') : LstRd w' ao Ms := by
  rcases h with h | ⟨b, off, e, hlt, hc⟩
  · exact Or.inl h
  · refine Or.inr ⟨b, off, e, by have := hb.size; omega, fun i hi => ?_⟩
    obtain ⟨ai, ci, h1, h2⟩ := hc i hi
    exact ⟨ai, ci, (hb.cell (p := ⟨b, _, none⟩) hlt).trans h1, h2.1.on hb, h2.2⟩
theorem StrRd.at_ {w : World} {ao : Option Addr} {S : List St} (h : StrRd w ao S) {i : Nat} (hi : i < S.length) : ∃ b off, ao = some ⟨b, off, none⟩ ∧ b < w.heap.size ∧ w.cell? ⟨b, off + i, none⟩ = some (.string (S.getD i ByteArray.empty)) := by
  rcases h with h | ⟨b, off, e, hlt, hc⟩
  · rw [h] at hi; simp at hi
  · exact ⟨b, off, e, hlt, hc i hi⟩
theorem LstRd.at_ {w : World} {ao : Option Addr} {Ms : List (List St)} (h : LstRd w ao Ms) {i : Nat} (hi : i < Ms.length) : ∃ b off ai ci, ao = some ⟨b, off, none⟩ ∧ b < w.heap.size ∧ w.cell? ⟨b, off + i, none⟩ = some (.slice ai (mm Ms i).length ci) ∧ StrRd w ai (mm Ms i) ∧ (ai = none → (mm Ms i).length = 0 ∧ ci = 0) := by
  rcases h with h | ⟨b, off, e, hlt, hc⟩
  · rw [h] at hi; simp at hi
  · obtain ⟨ai, ci, h1, h2⟩ := hc i hi
    exact ⟨b, off, ai, ci, e, hlt, h1, h2⟩
theorem undrew {w w' : World} (h : Below w.drew.heap.size w.drew w') : Below w.heap.size w w' := ⟨h.os, h.tape, h.output, h.size, h.block⟩
theorem below_up {a b c : World} (h : Below a.heap.size a b) (k : Below b.heap.size b c) : Below a.heap.size a c := h.trans (k.mono h.size)
end Go.Proofs.Qxb6603449a.BL
