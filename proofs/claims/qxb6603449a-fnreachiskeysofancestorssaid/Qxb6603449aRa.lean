import Derived.Test.Qxb6603449aBl7
import Derived.Test.Qxb6603449aSob
namespace Go.Proofs.Qxb6603449a.BL
open Go.RowKit Go.ChangeMaps Go.MapKept
set_option linter.unusedVariables false
set_option linter.unusedSimpArgs false

/-! ### A store into a map of names, whether the key is there or not -/
def putL : List (St × Value) → St → Value → List (St × Value)
  | [], x, v => [(x, v)]
  | p :: L, x, v => if p.1 == x then (x, v) :: L else p :: putL L x v
theorem get_cons (p : St × Value) (L : List (St × Value)) (x : St) : get (p :: L) x = if p.1 == x then some p.2 else get L x := by
  unfold get
  simp only [List.find?_cons]
  cases h : (p.1 == x) <;> simp
theorem get_putL (L : List (St × Value)) (x y : St) (v : Value) : get (putL L x v) y = if x = y then some v else get L y := by
  induction L with
  | nil =>
    simp only [putL, get_cons]
    by_cases e : x = y
    · simp [e]
    · have e' : (x == y) = false := by simpa using e
      simp [e, e']
  | cons p L ih =>
    simp only [putL]
    by_cases e : p.1 = x
    · have e' : (p.1 == x) = true := by simpa using e
      rw [e']
      simp only [if_true, get_cons]
      by_cases c : x = y
      · have c' : (x == y) = true := by simpa using c
        simp [c, c']
      · have c' : (x == y) = false := by simpa using c
        rw [e, c']; simp [c]
    · have e' : (p.1 == x) = false := by simpa using e
      rw [e']
      simp only [Bool.false_eq_true, if_false, get_cons, ih]
      by_cases c : p.1 = y
      · have c' : (p.1 == y) = true := by simpa using c
        have c2 : ¬ x = y := fun h => e (by rw [c, h])
        simp [c', c2]
      · have c' : (p.1 == y) = false := by simpa using c
        simp [c']
theorem putL_none (L : List (St × Value)) (x : St) (v : Value) (h : get L x = none) : putL L x v = L ++ [(x, v)] := by
  induction L with
  | nil => rfl
  | cons p L ih =>
    rw [get_cons] at h
    simp only [putL]
    cases e : (p.1 == x)
    · rw [e] at h
      simp only [Bool.false_eq_true, if_false] at h ⊢
      rw [ih h]; rfl
    · rw [e] at h; simp at h
theorem find_put (x : St) (u v : Value) (i j : Nat) (L : List (St × Value)) (h : get L x = some u) : ∃ t, Instr.findNow .string (.string x) (ents i L) j = some (some (j + t, u)) ∧ ((ents i L)[t]?).map (·.key) = some (.string x) ∧
    ents i (putL L x v) = (ents i L).modify t (fun e => { e with key := .string x, val := v }) ∧ (putL L x v).length = L.length := by
  induction L generalizing i j with
  | nil => simp [get] at h
  | cons p L ih =>
    rw [get_cons] at h
    by_cases e : p.1 = x
    · have e' : (p.1 == x) = true := by simpa using e
      have e2 : (x == p.1) = true := by simpa using e.symm
      rw [e'] at h
      simp only [if_true, Option.some.injEq] at h
      refine ⟨0, ?_, ?_, ?_, ?_⟩
      · simp only [ents, Instr.findNow, Instr.sameNow, e2, Nat.add_zero, h]
      · simp [ents, e]
      · simp [putL, e', ents]
      · simp [putL, e']
    · have e' : (p.1 == x) = false := by simpa using e
      have e2 : (x == p.1) = false := by simpa using fun c => e c.symm
      rw [e'] at h
      simp only [Bool.false_eq_true, if_false] at h
      obtain ⟨t, h1, h2, h3, h4⟩ := ih (i + 1) (j + 1) h
      refine ⟨t + 1, ?_, ?_, ?_, ?_⟩
      · simp only [ents, Instr.findNow, Instr.sameNow, e2, h1]
        congr 3; omega
      · simpa [ents] using h2
      · simp [putL, e', ents, h3]
      · simp [putL, e', h4]
theorem stays_str (x : St) (w : World) : (Instr.keyThatStays (.string x) (.string x)).run Try.prog w = .ok (.string x) w := by
  simp [Instr.keyThatStays, Instr.sameBits]
section
variable {w : World} {b : Nat} {L : List (St × Value)}
theorem upd_any (t e : TypeId) (ht : Try.prog.underlying t = some (.map 9 e)) (h : atM w b L) (x : St) (v : Value) :
    (Instr.mapUpdate t (.map (some b)) (.string x) v).run Try.prog w = .ok () (putM w b (putL L x v)) := by
  cases hg : get L x with
  | none => rw [putL_none L x v hg]; exact upd_none t e ht h x v hg
  | some u =>
    obtain ⟨k, hf, h2, h3, h4⟩ := find_put x u v 0 0 L hg
    rw [Nat.zero_add] at hf
    have hc : ∀ e, (Instr.checkKey e 10000 9 (.string x)).run Try.prog w = .ok () w := fun e => check9 e 9999 x w
    have hgo := go_map h
    have e1 : (((ents 0 L).toArray[k]?).map (·.key)).getD (.string x) = .string x := by
      rw [List.getElem?_toArray, h2]; rfl
    have e2 : ((ents 0 L).toArray.modify k fun e => { e with key := .string x, val := v }) = (ents 0 (putL L x v)).toArray := by
      rw [h3]; simp
    have e3 : (Option.map (fun x => x.key) (ents 0 L)[k]?).getD (.string x) = .string x := by rw [h2]; rfl
    simp [Instr.mapUpdate, run_underlying ht, hgo, hc, Instr.findKey, run_underlying Try.underlying9, hf, set_map h, putM, e3, stays_str, h4]
    rw [← h3]
theorem look_any (t e : TypeId) (ht : Try.prog.underlying t = some (.map 9 e)) (z : Value) (hz : (zeroValue e).run Try.prog w = .ok z w) (h : atM w b L) (x : St) : (Instr.lookup t (.map (some b)) (.string x) false).run Try.prog w = .ok ((get L x).getD z) w := by
  cases hg : get L x with
  | none => have := look_none t e ht z hz h x hg false; simpa using this
  | some v => have := look_some t e ht h x v hg false; simpa using this
theorem look_ok (t e : TypeId) (ht : Try.prog.underlying t = some (.map 9 e)) (z : Value) (hz : (zeroValue e).run Try.prog w = .ok z w) (h : atM w b L) (x : St) : (Instr.lookup t (.map (some b)) (.string x) true).run Try.prog w = .ok (.tuple #[(get L x).getD z, .bool (get L x).isSome]) w := by
  cases hg : get L x with
  | none => have := look_none t e ht z hz h x hg true; simpa using this
  | some v => have := look_some t e ht h x v hg true; simpa using this
end

/-! ### A set of numbers -/
def entI (i : Nat) : List Int → List MapEntry
  | [] => []
  | z :: L => { key := .int .i32 z, val := .bool true, born := i } :: entI (i + 1) L
theorem entI_snoc (i : Nat) (L : List Int) (z : Int) : entI i (L ++ [z]) = entI i L ++ [{ key := .int .i32 z, val := .bool true, born := i + L.length }] := by
  induction L generalizing i with
  | nil => rfl
  | cons p L ih => simp only [List.cons_append, entI, ih, List.length_cons]; congr 4; omega
theorem findI_none (z : Int) (i j : Nat) (L : List Int) (h : z ∉ L) : Instr.findNow (.int .i32) (.int .i32 z) (entI i L) j = some none := by
  induction L generalizing i j with
  | nil => rfl
  | cons p L ih =>
    simp only [List.mem_cons, not_or] at h
    have e2 : (z == p) = false := by simpa using h.1
    simp only [entI, Instr.findNow, Instr.sameNow, if_true, e2]
    exact ih _ _ h.2
theorem findI_some (z : Int) (i j : Nat) (L : List Int) (h : z ∈ L) : ∃ t, Instr.findNow (.int .i32) (.int .i32 z) (entI i L) j = some (some (t, .bool true)) := by
  induction L generalizing i j with
  | nil => simp at h
  | cons p L ih =>
    by_cases e : z = p
    · have e2 : (z == p) = true := by simpa using e
      simp only [entI, Instr.findNow, Instr.sameNow, if_true, e2]
      exact ⟨j, rfl⟩
    · have e2 : (z == p) = false := by simpa using e
      simp only [entI, Instr.findNow, Instr.sameNow, if_true, e2]
      exact ih _ _ (by simpa [e] using h)
abbrev atI (w : World) (b : Nat) (L : List Int) : Prop := w.heap[b]? = some (.map (entI 0 L).toArray L.length)
def putI (w : World) (b : Nat) (L : List Int) : World := setBlock w b (.map (entI 0 L).toArray L.length)
section
variable {w : World} {b : Nat} {L : List Int}
theorem atI_lt (h : atI w b L) : b < w.heap.size := by
  by_cases hx : b < w.heap.size
  · exact hx
  · unfold atI at h; rw [Array.getElem?_eq_none (by omega)] at h; cases h
theorem putI_same (hb : b < w.heap.size) (L : List Int) : atI (putI w b L) b L := by unfold atI putI setBlock; simp [hb]
theorem putI_grown (w : World) (b : Nat) (L : List Int) : w.grownBy (putI w b L) (some b) :=
  ⟨rfl, rfl, rfl, by unfold putI setBlock; simp, fun k _ hk => by
    unfold putI setBlock; simp only; rw [Array.getElem?_setIfInBounds_ne (fun e => hk (by rw [e]))]⟩
theorem checkI (e : Bool) (n : Nat) (z : Int) (w : World) : (Instr.checkKey e (n + 1) 21 (.int .i32 z)).run Try.prog w = .ok () w := by
  unfold Instr.checkKey
  simp [run_underlying Try.underlying21]
theorem lookI (h : atI w b L) (z : Int) (t : Bool) (ht : t = decide (z ∈ L)) : (Instr.lookup 44 (.map (some b)) (.int .i32 z) false).run Try.prog w = .ok (.bool t) w := by
  subst ht
  have hc : ∀ e, (Instr.checkKey e 10000 21 (.int .i32 z)).run Try.prog w = .ok () w := fun e => checkI e 9999 z w
  have hgo : (getObj b).run Try.prog w = .ok (.map (entI 0 L).toArray L.length) w := by simp [getObj, Sem.run, h]
  by_cases hz : z ∈ L
  · obtain ⟨k, hf⟩ := findI_some z 0 0 L hz
    simp [Instr.lookup, run_underlying Try.underlying44, hgo, hc, Instr.findKey, run_underlying Try.underlying21, hf, hz]
  · have hf := findI_none z 0 0 L hz
    simp [Instr.lookup, run_underlying Try.underlying44, hgo, hc, Instr.findKey, run_underlying Try.underlying21, hf, hz, zero4]
theorem updI (h : atI w b L) (z : Int) (hz : z ∉ L) : (Instr.mapUpdate 44 (.map (some b)) (.int .i32 z) (.bool true)).run Try.prog w = .ok () (putI w b (L ++ [z])) := by
  have hc : ∀ e, (Instr.checkKey e 10000 21 (.int .i32 z)).run Try.prog w = .ok () w := fun e => checkI e 9999 z w
  have hgo : (getObj b).run Try.prog w = .ok (.map (entI 0 L).toArray L.length) w := by simp [getObj, Sem.run, h]
  have hf := findI_none z 0 0 L hz
  have hset : ∀ o, (setObj b o).run Try.prog w = .ok () (setBlock w b o) := fun o => by simp [setObj, Sem.run, h, setBlock]
  have e1 : (entI 0 L).toArray.push { key := .int .i32 z, val := .bool true, born := L.length } = (entI 0 (L ++ [z])).toArray := by rw [entI_snoc]; simp
  simp [Instr.mapUpdate, run_underlying Try.underlying44, hgo, hc, Instr.findKey, run_underlying Try.underlying21, hf, hset, putI, e1, -List.push_toArray]
end
section
variable {w : World} {ops : Array Oper} {rest : List Oper} {o : Oper} {a : Act} {Q : Exit → Act → World → Prop}
theorem wpList_lookI (hw : Region.wanted o (yielded ops a.tmps) = true) (m x : Operand) (hop : o.op = .lookup 44 m x false) (b : Nat) (z : Int) (hm : a.eval m = .map (some b)) (hx : a.eval x = .int .i32 z) (r : Value)
    (hrun : (Instr.lookup 44 (.map (some b)) (.int .i32 z) false).run Try.prog w = .ok r w) (h : wpList Try.prog ops Q rest (a.put o.dst r) w) : wpList Try.prog ops Q (o :: rest) a w := by
  refine wpList_step fun K hK => ?_
  rw [if_pos hw]
  unfold Oper.wp
  simp [execOp, hop, hm, hx, hrun, Result.andThen]
  exact hK _ _ h
theorem wpList_updI (hgd : o.guard = none) (m x y : Operand) (hop : o.op = .mapUpdate 44 m x y) (b : Nat) (z : Int) (w' : World) (hm : a.eval m = .map (some b)) (hx : a.eval x = .int .i32 z) (hy : a.eval y = .bool true)
    (hrun : (Instr.mapUpdate 44 (.map (some b)) (.int .i32 z) (.bool true)).run Try.prog w = .ok () w') (h : wpList Try.prog ops Q rest (a.put o.dst undef) w') : wpList Try.prog ops Q (o :: rest) a w := by
  refine wpList_plain hgd fun K hK => ?_
  unfold Oper.wp
  simp [execOp, hop, hm, hx, hy, hrun, Result.andThen]
  exact hK _ _ h
end
end Go.Proofs.Qxb6603449a.BL
