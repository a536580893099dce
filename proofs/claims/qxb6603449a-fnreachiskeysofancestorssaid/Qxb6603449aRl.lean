import Derived.Test.Qxb6603449aRk
import Derived.ArgAppend
namespace Go.Proofs.Qxb6603449a.BL
open Go.RowKit Go.ChangeMaps Go.MapKept
set_option linter.unusedVariables false
set_option linter.unusedSimpArgs false

/-! ### Rows of numbers, appended -/
theorem i21_cells {w : World} {a : Addr} {Z : List Int} (h : I21 w (some a) Z) : ∀ j u, (Z.map (Value.int .i32))[j]? = some u → w.cell? (a.add j) = some u := by
  rcases h with h | ⟨b, c, e, hc, h1⟩
  · rw [h]; intro j u hu; simp at hu
  · injection e with e
    subst e
    intro j u hu
    have hj : j < Z.length := by
      by_cases hj : j < Z.length
      · exact hj
      · rw [List.getElem?_eq_none (by simp; omega)] at hu; cases hu
    refine World.news_of_block hc j u ?_
    have := h1 j hj
    rw [Array.getElem?_toList, this]
    rw [List.getElem?_map, List.getElem?_eq_getElem hj] at hu
    rw [← hu, List.getD_eq_getElem?_getD, List.getElem?_eq_getElem hj]; rfl
theorem ints_one (Z : List Int) : ∀ u ∈ Z.map (Value.int .i32), u.oneCell' = true := fun u hu => by
  obtain ⟨z, _, rfl⟩ := List.mem_map.1 hu; rfl
theorem own_i21 {w : World} {base g n cap : Nat} {Z : List Int} (h : w.ownsRow base 21 1 (.slice (some ⟨g, 0, none⟩) n cap) n (Z.map (Value.int .i32))) : n = Z.length ∧ n ≤ cap ∧ cap ≤ maxLen ∧ I21 w (some ⟨g, 0, none⟩) Z := by
  obtain ⟨h1, h2, h3, h4, V, h5⟩ := own_row h
  refine ⟨h1, h2, h3, Or.inr ⟨g, _, rfl, h5, fun i hi => ?_⟩⟩
  rw [List.getElem?_toArray, List.getElem?_append_left (by rw [SO.cel_len]; omega), SO.cel_at _ _ _ (by omega)]
  rfl
theorem run_key (ty : TypeId) (w : World) (ao : Option Addr) (n : Nat) (Z : List Int) (hn : n = Z.length) (h0 : ao = none → n = 0) (hI : I21 w ao Z) (B : Nat) (z : Int) (hB : w.heap[B]? = some (.cells #[.int .i32 z] 21 (0, 0))) (hnn : n ≤ 2199023255552) :
    ∃ v' w', (Builtin.append_ #[34, 34] ty #[.slice ao n n, .slice (some ⟨B, 0, none⟩) 1 1]).run Try.prog w = .ok v' w' ∧ w'.ownsRow w.heap.size 21 1 v' (n + 1) ((Z ++ [z]).map (Value.int .i32)) ∧ w.grownBy w' none := by
  obtain ⟨i, hi, hz0, hz1, hz2⟩ := info_parts info21
  have hz : Value.cells (.int .i32 0) = #[.int .i32 0] := rfl
  rw [List.map_append]
  cases ao with
  | none =>
    have e := h0 rfl
    subst e
    have eZ : Z = [] := List.eq_nil_of_length_eq_zero hn.symm
    subst eZ
    obtain ⟨v', w', h1, h2, h3, _, _⟩ := run_append_own_at (P := Try.prog) w w.heap.size 34 ty 21 i _ 1 4 Try.underlying34 hi hz0 hz1 hz2 rfl (by omega) (.slice none 0 0) 0 [] (World.ownsRow_nil _ _ _ _) ⟨B, 0, none⟩ 1 1 [.int .i32 z] (by simp) (World.news_of_block hB) (fun u hu => by rw [List.mem_singleton] at hu; rw [hu]; rfl) (by unfold maxLen; omega) (by omega) (Nat.le_refl _)
    exact ⟨v', w', h1, h2, h3⟩
  | some a =>
    exact run_append_arg_grows (P := Try.prog) w 34 ty 21 i _ 1 4 Try.underlying34 hi hz0 hz1 hz2 rfl (by omega) a n n (Z.map (Value.int .i32)) (by simp [hn]) (i21_cells hI) ⟨B, 0, none⟩ 1 1 [.int .i32 z] (by simp) (World.news_of_block hB) (by omega) (by unfold maxLen; omega) (by omega)
theorem wpList_key {w : World} {ops : Array Oper} {rest : List Oper} {o : Oper} {a : Act} {Q : Exit → Act → World → Prop} (hgd : o.guard = none) (s x : Operand)
    (ho : o.op = .call { callee := .builtin .append, args := #[s, x], argTypes := #[34, 34] }) (ao : Option Addr) (n B : Nat) (Z : List Int) (z : Int) (hs : a.eval s = .slice ao n n) (hx : a.eval x = .slice (some ⟨B, 0, none⟩) 1 1)
    (hn : n = Z.length) (h0 : ao = none → n = 0) (hI : I21 w ao Z) (hB : w.heap[B]? = some (.cells #[.int .i32 z] 21 (0, 0))) (hnn : n ≤ 2199023255552)
    (h : ∀ g cap w', w'.ownsRow w.heap.size 21 1 (.slice (some ⟨g, 0, none⟩) (n + 1) cap) (n + 1) ((Z ++ [z]).map (Value.int .i32)) → w.grownBy w' none → wpList Try.prog ops Q rest (a.put o.dst (.slice (some ⟨g, 0, none⟩) (n + 1) cap)) w') :
    wpList Try.prog ops Q (o :: rest) a w := by
  obtain ⟨v', w', hr, h2, h3⟩ := run_key o.type w ao n Z hn h0 hI B z hB hnn
  obtain ⟨g, cap, rfl, _⟩ := own_some h2 (by omega)
  refine wpList_plain hgd fun K hK => ?_
  unfold Oper.wp execOp
  simp only [ho, resolve, invoke, builtin, Sem.run_bind, Sem.run_pure, Result.andThen_ok, List.map_toArray, List.map_cons, List.map_nil, hs, hx, hr]
  exact hK _ _ (h g cap w' h2 h3)
theorem step_push21 {w : World} {ops : Array Oper} {o : Oper} {a : Act} {K : Act → World → Prop} {Q : Exit → Act → World → Prop} {E : Prop} (hgd : o.guard = none) (s x : Operand)
    (ho : o.op = .call { callee := .builtin .append, args := #[s, x], argTypes := #[34, 34] }) (base n m : Nat) (v : Value) (ad : Addr) (xs : List Value) (Zp : List Int) (hs : a.eval s = v) (hx : a.eval x = .slice (some ad) m m) (hown : w.ownsRow base 21 1 v n xs)
    (hm : Zp.length = m) (hm0 : 0 < m) (hI : I21 w (some ad) Zp) (hn : n + m ≤ 1099511627776) (hbase : base ≤ w.heap.size)
    (h : ∀ g cap w', w'.ownsRow base 21 1 (.slice (some ⟨g, 0, none⟩) (n + m) cap) (n + m) (xs ++ Zp.map (Value.int .i32)) → w.grownBy w' v.ownBlock → K (a.put o.dst (.slice (some ⟨g, 0, none⟩) (n + m) cap)) w') :
    if Region.wanted o (yielded ops a.tmps) = true then Oper.wp Try.prog o a w K Q else E := by
  obtain ⟨i, hi, hz0, hz1, hz2⟩ := info_parts info21
  refine step_append_lies w hgd s x 34 ho base 21 i _ 1 4 Try.underlying34 hi hz0 hz1 hz2 rfl (by omega) v n xs hs hown ad m m (Zp.map (Value.int .i32)) hx (by simp [hm]) (i21_cells hI) (ints_one Zp) (by omega) (by unfold maxLen; omega) (by omega) hbase _ rfl ?_
  intro g cap w' k2 k3 k4 k5
  exact h g cap w' k2 k3
theorem step_none21 {w : World} {ops : Array Oper} {o : Oper} {a : Act} {K : Act → World → Prop} {Q : Exit → Act → World → Prop} {E : Prop} (hgd : o.guard = none) (s x : Operand)
    (ho : o.op = .call { callee := .builtin .append, args := #[s, x], argTypes := #[34, 34] }) (ao bo : Option Addr) (n cap c : Nat) (hs : a.eval s = .slice ao n cap) (hx : a.eval x = .slice bo 0 c) (hn : n ≤ cap)
    (h : K (a.put o.dst (.slice ao n cap)) w) :
    if Region.wanted o (yielded ops a.tmps) = true then Oper.wp Try.prog o a w K Q else E := by
  have hw : Region.wanted o (yielded ops a.tmps) = true := by simp [Region.wanted, hgd]
  rw [if_pos hw]
  unfold Oper.wp execOp
  simp only [ho, resolve, invoke, builtin, Sem.run_bind, Sem.run_pure, Result.andThen_ok, List.map_toArray, List.map_cons, List.map_nil, hs, hx, app_none o.type ao bo n cap c hn]
  exact h
theorem con_len {F : St → Option (List Int)} {K : Nat} (h : ∀ p Z, F p = some Z → Z.length ≤ K) (l : List St) : (con F l).length ≤ l.length * K := by
  induction l with
  | nil => simp [con]
  | cons p l ih =>
    have e : con F (p :: l) = (F p).getD [] ++ con F l := rfl
    rw [e, List.length_append, List.length_cons, Nat.succ_mul]
    have : ((F p).getD []).length ≤ K := by
      cases hp : F p with
      | none => simp
      | some Z => exact h p Z hp
    omega
def GaPost (P : St → List St) (κ : St → Option Int) (F : St → Option (List Int)) (x : St) (w : World) (e : Ending) (w' : World) : Prop := ∃ ao Z, e = .returned (.slice ao Z.length Z.length) ∧ Gz P κ F x Z ∧ (ao = none → Z = []) ∧ I21 w' ao Z ∧ Below w.heap.size w w'
end Go.Proofs.Qxb6603449a.BL
